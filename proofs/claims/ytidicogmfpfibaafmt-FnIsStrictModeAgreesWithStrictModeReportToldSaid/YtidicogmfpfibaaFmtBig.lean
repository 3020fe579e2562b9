/-
  The struct types of many fields: the zero value's cells behind a name, where each field lies, what each zero cell holds.
-/
import Derived.Test.YtidicogmfpfibaaFmtKit
namespace Go.Proofs.YtidicogmfpfibaaFmt
set_option maxRecDepth 100000

noncomputable def PZ82 : Array Value := match (Tryf.prog.info? 82).bind (·.zero) with | some (.agg c) => c | _ => #[]
@[go_sem ↓] theorem zv82 (w : World) : (zeroValue 82).run Tryf.prog w = .ok (.agg PZ82) w := by kernel_rfl
@[simp, go_sem] theorem PZ82_size : PZ82.size = 33 := by kernel_rfl
@[simp, go_sem] theorem PZ82_0 : PZ82[0]? = some (.string ⟨#[]⟩) := by kernel_rfl
@[simp, go_sem] theorem PZ82_1 : PZ82[1]? = some (.pointer none) := by kernel_rfl
@[simp, go_sem] theorem PZ82_2 : PZ82[2]? = some (.int .i32 0) := by kernel_rfl
@[simp, go_sem] theorem PZ82_3 : PZ82[3]? = some (.int .i32 0) := by kernel_rfl
@[simp, go_sem] theorem PZ82_4 : PZ82[4]? = some (.int .u8 0) := by kernel_rfl
@[simp, go_sem] theorem PZ82_5 : PZ82[5]? = some (.int .u64 0) := by kernel_rfl
@[simp, go_sem] theorem PZ82_6 : PZ82[6]? = some (.int .u64 0) := by kernel_rfl
@[simp, go_sem] theorem PZ82_7 : PZ82[7]? = some (.int .u64 0) := by kernel_rfl
@[simp, go_sem] theorem PZ82_8 : PZ82[8]? = some (.int .u8 0) := by kernel_rfl
@[simp, go_sem] theorem PZ82_9 : PZ82[9]? = some (.int .u8 0) := by kernel_rfl
@[simp, go_sem] theorem PZ82_10 : PZ82[10]? = some (.int .u8 0) := by kernel_rfl
@[simp, go_sem] theorem PZ82_11 : PZ82[11]? = some (.int .u8 0) := by kernel_rfl
@[simp, go_sem] theorem PZ82_12 : PZ82[12]? = some (.int .u8 0) := by kernel_rfl
@[simp, go_sem] theorem PZ82_13 : PZ82[13]? = some (.int .u8 0) := by kernel_rfl
@[simp, go_sem] theorem PZ82_14 : PZ82[14]? = some (.bool false) := by kernel_rfl
@[simp, go_sem] theorem PZ82_15 : PZ82[15]? = some (.bool false) := by kernel_rfl
@[simp, go_sem] theorem PZ82_16 : PZ82[16]? = some (.int .u8 0) := by kernel_rfl
@[simp, go_sem] theorem PZ82_17 : PZ82[17]? = some (.int .u8 0) := by kernel_rfl
@[simp, go_sem] theorem PZ82_18 : PZ82[18]? = some (.int .u8 0) := by kernel_rfl
@[simp, go_sem] theorem PZ82_19 : PZ82[19]? = some (.int .u8 0) := by kernel_rfl
@[simp, go_sem] theorem PZ82_20 : PZ82[20]? = some (.int .u8 0) := by kernel_rfl
@[simp, go_sem] theorem PZ82_21 : PZ82[21]? = some (.bool false) := by kernel_rfl
@[simp, go_sem] theorem PZ82_22 : PZ82[22]? = some (.bool false) := by kernel_rfl
@[simp, go_sem] theorem PZ82_23 : PZ82[23]? = some (.bool false) := by kernel_rfl
@[simp, go_sem] theorem PZ82_24 : PZ82[24]? = some (.bool false) := by kernel_rfl
@[simp, go_sem] theorem PZ82_25 : PZ82[25]? = some (.bool false) := by kernel_rfl
@[simp, go_sem] theorem PZ82_26 : PZ82[26]? = some (.bool false) := by kernel_rfl
@[simp, go_sem] theorem PZ82_27 : PZ82[27]? = some (.bool false) := by kernel_rfl
@[simp, go_sem] theorem PZ82_28 : PZ82[28]? = some (.bool false) := by kernel_rfl
@[simp, go_sem] theorem PZ82_29 : PZ82[29]? = some (.bool false) := by kernel_rfl
@[simp, go_sem] theorem PZ82_30 : PZ82[30]? = some (.bool false) := by kernel_rfl
@[simp, go_sem] theorem PZ82_31 : PZ82[31]? = some (.bool false) := by kernel_rfl
@[simp, go_sem] theorem PZ82_32 : PZ82[32]? = some (.bool false) := by kernel_rfl
@[go_sem ↓] theorem fa82_0 (b o : Nat) (w : World) : (Instr.fieldAt 82 (.pointer (some ⟨b, o, none⟩)) 0).run Tryf.prog w = .ok (.pointer (some ⟨b, o, none⟩)) w := by kernel_rfl
@[go_sem ↓] theorem fa82_1 (b o : Nat) (w : World) : (Instr.fieldAt 82 (.pointer (some ⟨b, o, none⟩)) 1).run Tryf.prog w = .ok (.pointer (some ⟨b, o + 1, none⟩)) w := by kernel_rfl
@[go_sem ↓] theorem fa82_2 (b o : Nat) (w : World) : (Instr.fieldAt 82 (.pointer (some ⟨b, o, none⟩)) 2).run Tryf.prog w = .ok (.pointer (some ⟨b, o + 5, none⟩)) w := by kernel_rfl
@[go_sem ↓] theorem fa82_3 (b o : Nat) (w : World) : (Instr.fieldAt 82 (.pointer (some ⟨b, o, none⟩)) 3).run Tryf.prog w = .ok (.pointer (some ⟨b, o + 6, none⟩)) w := by kernel_rfl
@[go_sem ↓] theorem fa82_4 (b o : Nat) (w : World) : (Instr.fieldAt 82 (.pointer (some ⟨b, o, none⟩)) 4).run Tryf.prog w = .ok (.pointer (some ⟨b, o + 7, none⟩)) w := by kernel_rfl
@[go_sem ↓] theorem fa82_5 (b o : Nat) (w : World) : (Instr.fieldAt 82 (.pointer (some ⟨b, o, none⟩)) 5).run Tryf.prog w = .ok (.pointer (some ⟨b, o + 8, none⟩)) w := by kernel_rfl
@[go_sem ↓] theorem fa82_6 (b o : Nat) (w : World) : (Instr.fieldAt 82 (.pointer (some ⟨b, o, none⟩)) 6).run Tryf.prog w = .ok (.pointer (some ⟨b, o + 16, none⟩)) w := by kernel_rfl
@[go_sem ↓] theorem fa82_7 (b o : Nat) (w : World) : (Instr.fieldAt 82 (.pointer (some ⟨b, o, none⟩)) 7).run Tryf.prog w = .ok (.pointer (some ⟨b, o + 17, none⟩)) w := by kernel_rfl
@[go_sem ↓] theorem fa82_8 (b o : Nat) (w : World) : (Instr.fieldAt 82 (.pointer (some ⟨b, o, none⟩)) 8).run Tryf.prog w = .ok (.pointer (some ⟨b, o + 18, none⟩)) w := by kernel_rfl
@[go_sem ↓] theorem fa82_9 (b o : Nat) (w : World) : (Instr.fieldAt 82 (.pointer (some ⟨b, o, none⟩)) 9).run Tryf.prog w = .ok (.pointer (some ⟨b, o + 19, none⟩)) w := by kernel_rfl
@[go_sem ↓] theorem fa82_10 (b o : Nat) (w : World) : (Instr.fieldAt 82 (.pointer (some ⟨b, o, none⟩)) 10).run Tryf.prog w = .ok (.pointer (some ⟨b, o + 20, none⟩)) w := by kernel_rfl
@[go_sem ↓] theorem fa82_11 (b o : Nat) (w : World) : (Instr.fieldAt 82 (.pointer (some ⟨b, o, none⟩)) 11).run Tryf.prog w = .ok (.pointer (some ⟨b, o + 21, none⟩)) w := by kernel_rfl
@[go_sem ↓] theorem fa82_12 (b o : Nat) (w : World) : (Instr.fieldAt 82 (.pointer (some ⟨b, o, none⟩)) 12).run Tryf.prog w = .ok (.pointer (some ⟨b, o + 22, none⟩)) w := by kernel_rfl
@[go_sem ↓] theorem fa82_13 (b o : Nat) (w : World) : (Instr.fieldAt 82 (.pointer (some ⟨b, o, none⟩)) 13).run Tryf.prog w = .ok (.pointer (some ⟨b, o + 23, none⟩)) w := by kernel_rfl
@[go_sem ↓] theorem fa82_14 (b o : Nat) (w : World) : (Instr.fieldAt 82 (.pointer (some ⟨b, o, none⟩)) 14).run Tryf.prog w = .ok (.pointer (some ⟨b, o + 24, none⟩)) w := by kernel_rfl
@[go_sem ↓] theorem fa82_15 (b o : Nat) (w : World) : (Instr.fieldAt 82 (.pointer (some ⟨b, o, none⟩)) 15).run Tryf.prog w = .ok (.pointer (some ⟨b, o + 25, none⟩)) w := by kernel_rfl
@[go_sem ↓] theorem fa82_16 (b o : Nat) (w : World) : (Instr.fieldAt 82 (.pointer (some ⟨b, o, none⟩)) 16).run Tryf.prog w = .ok (.pointer (some ⟨b, o + 26, none⟩)) w := by kernel_rfl
@[go_sem ↓] theorem fa82_17 (b o : Nat) (w : World) : (Instr.fieldAt 82 (.pointer (some ⟨b, o, none⟩)) 17).run Tryf.prog w = .ok (.pointer (some ⟨b, o + 27, none⟩)) w := by kernel_rfl
@[go_sem ↓] theorem fa82_18 (b o : Nat) (w : World) : (Instr.fieldAt 82 (.pointer (some ⟨b, o, none⟩)) 18).run Tryf.prog w = .ok (.pointer (some ⟨b, o + 28, none⟩)) w := by kernel_rfl
@[go_sem ↓] theorem fa82_19 (b o : Nat) (w : World) : (Instr.fieldAt 82 (.pointer (some ⟨b, o, none⟩)) 19).run Tryf.prog w = .ok (.pointer (some ⟨b, o + 29, none⟩)) w := by kernel_rfl
@[go_sem ↓] theorem fa82_20 (b o : Nat) (w : World) : (Instr.fieldAt 82 (.pointer (some ⟨b, o, none⟩)) 20).run Tryf.prog w = .ok (.pointer (some ⟨b, o + 30, none⟩)) w := by kernel_rfl
@[go_sem ↓] theorem fa82_21 (b o : Nat) (w : World) : (Instr.fieldAt 82 (.pointer (some ⟨b, o, none⟩)) 21).run Tryf.prog w = .ok (.pointer (some ⟨b, o + 31, none⟩)) w := by kernel_rfl
@[go_sem ↓] theorem fa82_22 (b o : Nat) (w : World) : (Instr.fieldAt 82 (.pointer (some ⟨b, o, none⟩)) 22).run Tryf.prog w = .ok (.pointer (some ⟨b, o + 32, none⟩)) w := by kernel_rfl
noncomputable def PZ84 : Array Value := match (Tryf.prog.info? 84).bind (·.zero) with | some (.agg c) => c | _ => #[]
@[go_sem ↓] theorem zv84 (w : World) : (zeroValue 84).run Tryf.prog w = .ok (.agg PZ84) w := by kernel_rfl
@[simp, go_sem] theorem PZ84_size : PZ84.size = 51 := by kernel_rfl
@[simp, go_sem] theorem PZ84_0 : PZ84[0]? = some (.slice none 0 0) := by kernel_rfl
@[simp, go_sem] theorem PZ84_1 : PZ84[1]? = some (.nilIface) := by kernel_rfl
@[simp, go_sem] theorem PZ84_2 : PZ84[2]? = some (.slice none 0 0) := by kernel_rfl
@[simp, go_sem] theorem PZ84_3 : PZ84[3]? = some (.int .u32 0) := by kernel_rfl
@[simp, go_sem] theorem PZ84_4 : PZ84[4]? = some (.nilIface) := by kernel_rfl
@[simp, go_sem] theorem PZ84_5 : PZ84[5]? = some (.slice none 0 0) := by kernel_rfl
@[simp, go_sem] theorem PZ84_6 : PZ84[6]? = some (.int .u32 0) := by kernel_rfl
@[simp, go_sem] theorem PZ84_7 : PZ84[7]? = some (.bool false) := by kernel_rfl
@[simp, go_sem] theorem PZ84_8 : PZ84[8]? = some (.bool false) := by kernel_rfl
@[simp, go_sem] theorem PZ84_9 : PZ84[9]? = some (.bool false) := by kernel_rfl
@[simp, go_sem] theorem PZ84_10 : PZ84[10]? = some (.string ⟨#[]⟩) := by kernel_rfl
@[simp, go_sem] theorem PZ84_11 : PZ84[11]? = some (.bool false) := by kernel_rfl
@[simp, go_sem] theorem PZ84_12 : PZ84[12]? = some (.bool false) := by kernel_rfl
@[simp, go_sem] theorem PZ84_13 : PZ84[13]? = some (.pointer none) := by kernel_rfl
@[simp, go_sem] theorem PZ84_14 : PZ84[14]? = some (.pointer none) := by kernel_rfl
@[simp, go_sem] theorem PZ84_15 : PZ84[15]? = some (.pointer none) := by kernel_rfl
@[simp, go_sem] theorem PZ84_16 : PZ84[16]? = some (.slice none 0 0) := by kernel_rfl
@[simp, go_sem] theorem PZ84_17 : PZ84[17]? = some (.pointer none) := by kernel_rfl
@[simp, go_sem] theorem PZ84_18 : PZ84[18]? = some (.string ⟨#[]⟩) := by kernel_rfl
@[simp, go_sem] theorem PZ84_19 : PZ84[19]? = some (.pointer none) := by kernel_rfl
@[simp, go_sem] theorem PZ84_20 : PZ84[20]? = some (.int .i32 0) := by kernel_rfl
@[simp, go_sem] theorem PZ84_21 : PZ84[21]? = some (.int .i32 0) := by kernel_rfl
@[simp, go_sem] theorem PZ84_22 : PZ84[22]? = some (.int .u8 0) := by kernel_rfl
@[simp, go_sem] theorem PZ84_23 : PZ84[23]? = some (.int .u64 0) := by kernel_rfl
@[simp, go_sem] theorem PZ84_24 : PZ84[24]? = some (.int .u64 0) := by kernel_rfl
@[simp, go_sem] theorem PZ84_25 : PZ84[25]? = some (.int .u64 0) := by kernel_rfl
@[simp, go_sem] theorem PZ84_26 : PZ84[26]? = some (.int .u8 0) := by kernel_rfl
@[simp, go_sem] theorem PZ84_27 : PZ84[27]? = some (.int .u8 0) := by kernel_rfl
@[simp, go_sem] theorem PZ84_28 : PZ84[28]? = some (.int .u8 0) := by kernel_rfl
@[simp, go_sem] theorem PZ84_29 : PZ84[29]? = some (.int .u8 0) := by kernel_rfl
@[simp, go_sem] theorem PZ84_30 : PZ84[30]? = some (.int .u8 0) := by kernel_rfl
@[simp, go_sem] theorem PZ84_31 : PZ84[31]? = some (.int .u8 0) := by kernel_rfl
@[simp, go_sem] theorem PZ84_32 : PZ84[32]? = some (.bool false) := by kernel_rfl
@[simp, go_sem] theorem PZ84_33 : PZ84[33]? = some (.bool false) := by kernel_rfl
@[simp, go_sem] theorem PZ84_34 : PZ84[34]? = some (.int .u8 0) := by kernel_rfl
@[simp, go_sem] theorem PZ84_35 : PZ84[35]? = some (.int .u8 0) := by kernel_rfl
@[simp, go_sem] theorem PZ84_36 : PZ84[36]? = some (.int .u8 0) := by kernel_rfl
@[simp, go_sem] theorem PZ84_37 : PZ84[37]? = some (.int .u8 0) := by kernel_rfl
@[simp, go_sem] theorem PZ84_38 : PZ84[38]? = some (.int .u8 0) := by kernel_rfl
@[simp, go_sem] theorem PZ84_39 : PZ84[39]? = some (.bool false) := by kernel_rfl
@[simp, go_sem] theorem PZ84_40 : PZ84[40]? = some (.bool false) := by kernel_rfl
@[simp, go_sem] theorem PZ84_41 : PZ84[41]? = some (.bool false) := by kernel_rfl
@[simp, go_sem] theorem PZ84_42 : PZ84[42]? = some (.bool false) := by kernel_rfl
@[simp, go_sem] theorem PZ84_43 : PZ84[43]? = some (.bool false) := by kernel_rfl
@[simp, go_sem] theorem PZ84_44 : PZ84[44]? = some (.bool false) := by kernel_rfl
@[simp, go_sem] theorem PZ84_45 : PZ84[45]? = some (.bool false) := by kernel_rfl
@[simp, go_sem] theorem PZ84_46 : PZ84[46]? = some (.bool false) := by kernel_rfl
@[simp, go_sem] theorem PZ84_47 : PZ84[47]? = some (.bool false) := by kernel_rfl
@[simp, go_sem] theorem PZ84_48 : PZ84[48]? = some (.bool false) := by kernel_rfl
@[simp, go_sem] theorem PZ84_49 : PZ84[49]? = some (.bool false) := by kernel_rfl
@[simp, go_sem] theorem PZ84_50 : PZ84[50]? = some (.bool false) := by kernel_rfl
@[go_sem ↓] theorem fa84_0 (b o : Nat) (w : World) : (Instr.fieldAt 84 (.pointer (some ⟨b, o, none⟩)) 0).run Tryf.prog w = .ok (.pointer (some ⟨b, o, none⟩)) w := by kernel_rfl
@[go_sem ↓] theorem fa84_1 (b o : Nat) (w : World) : (Instr.fieldAt 84 (.pointer (some ⟨b, o, none⟩)) 1).run Tryf.prog w = .ok (.pointer (some ⟨b, o + 1, none⟩)) w := by kernel_rfl
@[go_sem ↓] theorem fa84_2 (b o : Nat) (w : World) : (Instr.fieldAt 84 (.pointer (some ⟨b, o, none⟩)) 2).run Tryf.prog w = .ok (.pointer (some ⟨b, o + 13, none⟩)) w := by kernel_rfl
@[go_sem ↓] theorem fa84_3 (b o : Nat) (w : World) : (Instr.fieldAt 84 (.pointer (some ⟨b, o, none⟩)) 3).run Tryf.prog w = .ok (.pointer (some ⟨b, o + 14, none⟩)) w := by kernel_rfl
@[go_sem ↓] theorem fa84_4 (b o : Nat) (w : World) : (Instr.fieldAt 84 (.pointer (some ⟨b, o, none⟩)) 4).run Tryf.prog w = .ok (.pointer (some ⟨b, o + 15, none⟩)) w := by kernel_rfl
@[go_sem ↓] theorem fa84_5 (b o : Nat) (w : World) : (Instr.fieldAt 84 (.pointer (some ⟨b, o, none⟩)) 5).run Tryf.prog w = .ok (.pointer (some ⟨b, o + 16, none⟩)) w := by kernel_rfl
@[go_sem ↓] theorem fa84_6 (b o : Nat) (w : World) : (Instr.fieldAt 84 (.pointer (some ⟨b, o, none⟩)) 6).run Tryf.prog w = .ok (.pointer (some ⟨b, o + 17, none⟩)) w := by kernel_rfl
@[go_sem ↓] theorem fa84_7 (b o : Nat) (w : World) : (Instr.fieldAt 84 (.pointer (some ⟨b, o, none⟩)) 7).run Tryf.prog w = .ok (.pointer (some ⟨b, o + 18, none⟩)) w := by kernel_rfl
noncomputable def PZ166 : Array Value := match (Tryf.prog.info? 166).bind (·.zero) with | some (.agg c) => c | _ => #[]
@[go_sem ↓] theorem zv166 (w : World) : (zeroValue 166).run Tryf.prog w = .ok (.agg PZ166) w := by kernel_rfl
@[simp, go_sem] theorem PZ166_size : PZ166.size = 353 := by kernel_rfl
@[simp, go_sem] theorem PZ166_0 : PZ166[0]? = some (.slice none 0 0) := by kernel_rfl
@[simp, go_sem] theorem PZ166_1 : PZ166[1]? = some (.nilIface) := by kernel_rfl
@[simp, go_sem] theorem PZ166_2 : PZ166[2]? = some (.slice none 0 0) := by kernel_rfl
@[simp, go_sem] theorem PZ166_3 : PZ166[3]? = some (.int .u32 0) := by kernel_rfl
@[simp, go_sem] theorem PZ166_4 : PZ166[4]? = some (.nilIface) := by kernel_rfl
@[simp, go_sem] theorem PZ166_5 : PZ166[5]? = some (.slice none 0 0) := by kernel_rfl
@[simp, go_sem] theorem PZ166_6 : PZ166[6]? = some (.int .u32 0) := by kernel_rfl
@[simp, go_sem] theorem PZ166_7 : PZ166[7]? = some (.bool false) := by kernel_rfl
@[simp, go_sem] theorem PZ166_8 : PZ166[8]? = some (.bool false) := by kernel_rfl
@[simp, go_sem] theorem PZ166_9 : PZ166[9]? = some (.bool false) := by kernel_rfl
@[simp, go_sem] theorem PZ166_10 : PZ166[10]? = some (.string ⟨#[]⟩) := by kernel_rfl
@[simp, go_sem] theorem PZ166_11 : PZ166[11]? = some (.bool false) := by kernel_rfl
@[simp, go_sem] theorem PZ166_12 : PZ166[12]? = some (.bool false) := by kernel_rfl
@[simp, go_sem] theorem PZ166_13 : PZ166[13]? = some (.pointer none) := by kernel_rfl
@[simp, go_sem] theorem PZ166_14 : PZ166[14]? = some (.pointer none) := by kernel_rfl
@[simp, go_sem] theorem PZ166_15 : PZ166[15]? = some (.pointer none) := by kernel_rfl
@[simp, go_sem] theorem PZ166_16 : PZ166[16]? = some (.slice none 0 0) := by kernel_rfl
@[simp, go_sem] theorem PZ166_17 : PZ166[17]? = some (.pointer none) := by kernel_rfl
@[simp, go_sem] theorem PZ166_18 : PZ166[18]? = some (.string ⟨#[]⟩) := by kernel_rfl
@[simp, go_sem] theorem PZ166_19 : PZ166[19]? = some (.pointer none) := by kernel_rfl
@[simp, go_sem] theorem PZ166_20 : PZ166[20]? = some (.int .i32 0) := by kernel_rfl
@[simp, go_sem] theorem PZ166_21 : PZ166[21]? = some (.int .i32 0) := by kernel_rfl
@[simp, go_sem] theorem PZ166_22 : PZ166[22]? = some (.int .u8 0) := by kernel_rfl
@[simp, go_sem] theorem PZ166_23 : PZ166[23]? = some (.int .u64 0) := by kernel_rfl
@[simp, go_sem] theorem PZ166_24 : PZ166[24]? = some (.int .u64 0) := by kernel_rfl
@[simp, go_sem] theorem PZ166_25 : PZ166[25]? = some (.int .u64 0) := by kernel_rfl
@[simp, go_sem] theorem PZ166_26 : PZ166[26]? = some (.int .u8 0) := by kernel_rfl
@[simp, go_sem] theorem PZ166_27 : PZ166[27]? = some (.int .u8 0) := by kernel_rfl
@[simp, go_sem] theorem PZ166_28 : PZ166[28]? = some (.int .u8 0) := by kernel_rfl
@[simp, go_sem] theorem PZ166_29 : PZ166[29]? = some (.int .u8 0) := by kernel_rfl
@[simp, go_sem] theorem PZ166_30 : PZ166[30]? = some (.int .u8 0) := by kernel_rfl
@[simp, go_sem] theorem PZ166_31 : PZ166[31]? = some (.int .u8 0) := by kernel_rfl
@[simp, go_sem] theorem PZ166_32 : PZ166[32]? = some (.bool false) := by kernel_rfl
@[simp, go_sem] theorem PZ166_33 : PZ166[33]? = some (.bool false) := by kernel_rfl
@[simp, go_sem] theorem PZ166_34 : PZ166[34]? = some (.int .u8 0) := by kernel_rfl
@[simp, go_sem] theorem PZ166_35 : PZ166[35]? = some (.int .u8 0) := by kernel_rfl
@[simp, go_sem] theorem PZ166_36 : PZ166[36]? = some (.int .u8 0) := by kernel_rfl
@[simp, go_sem] theorem PZ166_37 : PZ166[37]? = some (.int .u8 0) := by kernel_rfl
@[simp, go_sem] theorem PZ166_38 : PZ166[38]? = some (.int .u8 0) := by kernel_rfl
@[simp, go_sem] theorem PZ166_39 : PZ166[39]? = some (.bool false) := by kernel_rfl
@[simp, go_sem] theorem PZ166_40 : PZ166[40]? = some (.bool false) := by kernel_rfl
@[simp, go_sem] theorem PZ166_41 : PZ166[41]? = some (.bool false) := by kernel_rfl
@[simp, go_sem] theorem PZ166_42 : PZ166[42]? = some (.bool false) := by kernel_rfl
@[simp, go_sem] theorem PZ166_43 : PZ166[43]? = some (.bool false) := by kernel_rfl
@[simp, go_sem] theorem PZ166_44 : PZ166[44]? = some (.bool false) := by kernel_rfl
@[simp, go_sem] theorem PZ166_45 : PZ166[45]? = some (.bool false) := by kernel_rfl
@[simp, go_sem] theorem PZ166_46 : PZ166[46]? = some (.bool false) := by kernel_rfl
@[simp, go_sem] theorem PZ166_47 : PZ166[47]? = some (.bool false) := by kernel_rfl
@[simp, go_sem] theorem PZ166_48 : PZ166[48]? = some (.bool false) := by kernel_rfl
@[simp, go_sem] theorem PZ166_49 : PZ166[49]? = some (.bool false) := by kernel_rfl
@[simp, go_sem] theorem PZ166_50 : PZ166[50]? = some (.bool false) := by kernel_rfl
@[simp, go_sem] theorem PZ166_51 : PZ166[51]? = some (.nilFunc) := by kernel_rfl
@[simp, go_sem] theorem PZ166_52 : PZ166[52]? = some (.nilFunc) := by kernel_rfl
@[simp, go_sem] theorem PZ166_53 : PZ166[53]? = some (.nilFunc) := by kernel_rfl
@[simp, go_sem] theorem PZ166_54 : PZ166[54]? = some (.nilFunc) := by kernel_rfl
@[simp, go_sem] theorem PZ166_55 : PZ166[55]? = some (.int .i8 0) := by kernel_rfl
@[simp, go_sem] theorem PZ166_56 : PZ166[56]? = some (.map none) := by kernel_rfl
@[simp, go_sem] theorem PZ166_57 : PZ166[57]? = some (.string ⟨#[]⟩) := by kernel_rfl
@[simp, go_sem] theorem PZ166_58 : PZ166[58]? = some (.string ⟨#[]⟩) := by kernel_rfl
@[simp, go_sem] theorem PZ166_59 : PZ166[59]? = some (.string ⟨#[]⟩) := by kernel_rfl
@[simp, go_sem] theorem PZ166_60 : PZ166[60]? = some (.string ⟨#[]⟩) := by kernel_rfl
@[simp, go_sem] theorem PZ166_61 : PZ166[61]? = some (.string ⟨#[]⟩) := by kernel_rfl
@[simp, go_sem] theorem PZ166_62 : PZ166[62]? = some (.string ⟨#[]⟩) := by kernel_rfl
@[simp, go_sem] theorem PZ166_63 : PZ166[63]? = some (.string ⟨#[]⟩) := by kernel_rfl
@[simp, go_sem] theorem PZ166_64 : PZ166[64]? = some (.string ⟨#[]⟩) := by kernel_rfl
@[simp, go_sem] theorem PZ166_65 : PZ166[65]? = some (.int .u8 0) := by kernel_rfl
@[simp, go_sem] theorem PZ166_66 : PZ166[66]? = some (.int .u32 0) := by kernel_rfl
@[simp, go_sem] theorem PZ166_67 : PZ166[67]? = some (.string ⟨#[]⟩) := by kernel_rfl
@[simp, go_sem] theorem PZ166_68 : PZ166[68]? = some (.string ⟨#[]⟩) := by kernel_rfl
@[simp, go_sem] theorem PZ166_69 : PZ166[69]? = some (.string ⟨#[]⟩) := by kernel_rfl
@[simp, go_sem] theorem PZ166_70 : PZ166[70]? = some (.int .i32 0) := by kernel_rfl
@[simp, go_sem] theorem PZ166_71 : PZ166[71]? = some (.int .i32 0) := by kernel_rfl
@[simp, go_sem] theorem PZ166_72 : PZ166[72]? = some (.int .i32 0) := by kernel_rfl
@[simp, go_sem] theorem PZ166_73 : PZ166[73]? = some (.int .i32 0) := by kernel_rfl
@[simp, go_sem] theorem PZ166_74 : PZ166[74]? = some (.bool false) := by kernel_rfl
@[simp, go_sem] theorem PZ166_75 : PZ166[75]? = some (.bool false) := by kernel_rfl
@[simp, go_sem] theorem PZ166_76 : PZ166[76]? = some (.bool false) := by kernel_rfl
@[simp, go_sem] theorem PZ166_77 : PZ166[77]? = some (.pointer none) := by kernel_rfl
@[simp, go_sem] theorem PZ166_78 : PZ166[78]? = some (.pointer none) := by kernel_rfl
@[simp, go_sem] theorem PZ166_79 : PZ166[79]? = some (.int .i32 0) := by kernel_rfl
@[simp, go_sem] theorem PZ166_80 : PZ166[80]? = some (.int .i32 0) := by kernel_rfl
@[simp, go_sem] theorem PZ166_81 : PZ166[81]? = some (.int .i32 0) := by kernel_rfl
@[simp, go_sem] theorem PZ166_82 : PZ166[82]? = some (.int .u8 0) := by kernel_rfl
@[simp, go_sem] theorem PZ166_83 : PZ166[83]? = some (.int .u8 0) := by kernel_rfl
@[simp, go_sem] theorem PZ166_84 : PZ166[84]? = some (.bool false) := by kernel_rfl
@[simp, go_sem] theorem PZ166_85 : PZ166[85]? = some (.bool false) := by kernel_rfl
@[simp, go_sem] theorem PZ166_86 : PZ166[86]? = some (.bool false) := by kernel_rfl
@[simp, go_sem] theorem PZ166_87 : PZ166[87]? = some (.bool false) := by kernel_rfl
@[simp, go_sem] theorem PZ166_88 : PZ166[88]? = some (.bool false) := by kernel_rfl
@[simp, go_sem] theorem PZ166_89 : PZ166[89]? = some (.bool false) := by kernel_rfl
@[simp, go_sem] theorem PZ166_90 : PZ166[90]? = some (.bool false) := by kernel_rfl
@[simp, go_sem] theorem PZ166_91 : PZ166[91]? = some (.bool false) := by kernel_rfl
@[simp, go_sem] theorem PZ166_92 : PZ166[92]? = some (.pointer none) := by kernel_rfl
@[simp, go_sem] theorem PZ166_93 : PZ166[93]? = some (.pointer none) := by kernel_rfl
@[simp, go_sem] theorem PZ166_94 : PZ166[94]? = some (.pointer none) := by kernel_rfl
@[simp, go_sem] theorem PZ166_95 : PZ166[95]? = some (.bool false) := by kernel_rfl
@[simp, go_sem] theorem PZ166_96 : PZ166[96]? = some (.bool false) := by kernel_rfl
@[simp, go_sem] theorem PZ166_97 : PZ166[97]? = some (.pointer none) := by kernel_rfl
@[simp, go_sem] theorem PZ166_98 : PZ166[98]? = some (.bool false) := by kernel_rfl
@[simp, go_sem] theorem PZ166_99 : PZ166[99]? = some (.bool false) := by kernel_rfl
@[simp, go_sem] theorem PZ166_100 : PZ166[100]? = some (.bool false) := by kernel_rfl
@[simp, go_sem] theorem PZ166_101 : PZ166[101]? = some (.bool false) := by kernel_rfl
@[simp, go_sem] theorem PZ166_102 : PZ166[102]? = some (.bool false) := by kernel_rfl
@[simp, go_sem] theorem PZ166_103 : PZ166[103]? = some (.slice none 0 0) := by kernel_rfl
@[simp, go_sem] theorem PZ166_104 : PZ166[104]? = some (.pointer none) := by kernel_rfl
@[simp, go_sem] theorem PZ166_105 : PZ166[105]? = some (.pointer none) := by kernel_rfl
@[simp, go_sem] theorem PZ166_106 : PZ166[106]? = some (.slice none 0 0) := by kernel_rfl
@[simp, go_sem] theorem PZ166_107 : PZ166[107]? = some (.nilFunc) := by kernel_rfl
@[simp, go_sem] theorem PZ166_108 : PZ166[108]? = some (.slice none 0 0) := by kernel_rfl
@[simp, go_sem] theorem PZ166_109 : PZ166[109]? = some (.slice none 0 0) := by kernel_rfl
@[simp, go_sem] theorem PZ166_110 : PZ166[110]? = some (.map none) := by kernel_rfl
@[simp, go_sem] theorem PZ166_111 : PZ166[111]? = some (.map none) := by kernel_rfl
@[simp, go_sem] theorem PZ166_112 : PZ166[112]? = some (.map none) := by kernel_rfl
@[simp, go_sem] theorem PZ166_113 : PZ166[113]? = some (.map none) := by kernel_rfl
@[simp, go_sem] theorem PZ166_114 : PZ166[114]? = some (.map none) := by kernel_rfl
@[simp, go_sem] theorem PZ166_115 : PZ166[115]? = some (.map none) := by kernel_rfl
@[simp, go_sem] theorem PZ166_116 : PZ166[116]? = some (.slice none 0 0) := by kernel_rfl
@[simp, go_sem] theorem PZ166_117 : PZ166[117]? = some (.map none) := by kernel_rfl
@[simp, go_sem] theorem PZ166_118 : PZ166[118]? = some (.slice none 0 0) := by kernel_rfl
@[simp, go_sem] theorem PZ166_119 : PZ166[119]? = some (.int .u8 0) := by kernel_rfl
@[simp, go_sem] theorem PZ166_120 : PZ166[120]? = some (.int .u8 0) := by kernel_rfl
@[simp, go_sem] theorem PZ166_121 : PZ166[121]? = some (.int .u8 0) := by kernel_rfl
@[simp, go_sem] theorem PZ166_122 : PZ166[122]? = some (.int .u8 0) := by kernel_rfl
@[simp, go_sem] theorem PZ166_123 : PZ166[123]? = some (.int .u8 0) := by kernel_rfl
@[simp, go_sem] theorem PZ166_124 : PZ166[124]? = some (.int .u8 0) := by kernel_rfl
@[simp, go_sem] theorem PZ166_125 : PZ166[125]? = some (.int .u8 0) := by kernel_rfl
@[simp, go_sem] theorem PZ166_126 : PZ166[126]? = some (.int .u8 0) := by kernel_rfl
@[simp, go_sem] theorem PZ166_127 : PZ166[127]? = some (.int .u8 0) := by kernel_rfl
@[simp, go_sem] theorem PZ166_128 : PZ166[128]? = some (.int .u8 0) := by kernel_rfl
@[simp, go_sem] theorem PZ166_129 : PZ166[129]? = some (.int .u8 0) := by kernel_rfl
@[simp, go_sem] theorem PZ166_130 : PZ166[130]? = some (.int .u8 0) := by kernel_rfl
@[simp, go_sem] theorem PZ166_131 : PZ166[131]? = some (.int .u8 0) := by kernel_rfl
@[simp, go_sem] theorem PZ166_132 : PZ166[132]? = some (.int .u8 0) := by kernel_rfl
@[simp, go_sem] theorem PZ166_133 : PZ166[133]? = some (.int .u8 0) := by kernel_rfl
@[simp, go_sem] theorem PZ166_134 : PZ166[134]? = some (.int .u8 0) := by kernel_rfl
@[simp, go_sem] theorem PZ166_135 : PZ166[135]? = some (.int .u8 0) := by kernel_rfl
@[simp, go_sem] theorem PZ166_136 : PZ166[136]? = some (.int .u8 0) := by kernel_rfl
@[simp, go_sem] theorem PZ166_137 : PZ166[137]? = some (.int .u8 0) := by kernel_rfl
@[simp, go_sem] theorem PZ166_138 : PZ166[138]? = some (.int .u8 0) := by kernel_rfl
@[simp, go_sem] theorem PZ166_139 : PZ166[139]? = some (.int .u8 0) := by kernel_rfl
@[simp, go_sem] theorem PZ166_140 : PZ166[140]? = some (.int .u8 0) := by kernel_rfl
@[simp, go_sem] theorem PZ166_141 : PZ166[141]? = some (.int .u8 0) := by kernel_rfl
@[simp, go_sem] theorem PZ166_142 : PZ166[142]? = some (.int .u8 0) := by kernel_rfl
@[simp, go_sem] theorem PZ166_143 : PZ166[143]? = some (.int .u8 0) := by kernel_rfl
@[simp, go_sem] theorem PZ166_144 : PZ166[144]? = some (.int .u8 0) := by kernel_rfl
@[simp, go_sem] theorem PZ166_145 : PZ166[145]? = some (.int .u8 0) := by kernel_rfl
@[simp, go_sem] theorem PZ166_146 : PZ166[146]? = some (.int .u8 0) := by kernel_rfl
@[simp, go_sem] theorem PZ166_147 : PZ166[147]? = some (.int .u8 0) := by kernel_rfl
@[simp, go_sem] theorem PZ166_148 : PZ166[148]? = some (.int .u8 0) := by kernel_rfl
@[simp, go_sem] theorem PZ166_149 : PZ166[149]? = some (.int .u8 0) := by kernel_rfl
@[simp, go_sem] theorem PZ166_150 : PZ166[150]? = some (.int .u8 0) := by kernel_rfl
@[simp, go_sem] theorem PZ166_151 : PZ166[151]? = some (.map none) := by kernel_rfl
@[simp, go_sem] theorem PZ166_152 : PZ166[152]? = some (.map none) := by kernel_rfl
@[simp, go_sem] theorem PZ166_153 : PZ166[153]? = some (.map none) := by kernel_rfl
@[simp, go_sem] theorem PZ166_154 : PZ166[154]? = some (.slice none 0 0) := by kernel_rfl
@[simp, go_sem] theorem PZ166_155 : PZ166[155]? = some (.map none) := by kernel_rfl
@[simp, go_sem] theorem PZ166_156 : PZ166[156]? = some (.map none) := by kernel_rfl
@[simp, go_sem] theorem PZ166_157 : PZ166[157]? = some (.map none) := by kernel_rfl
@[simp, go_sem] theorem PZ166_158 : PZ166[158]? = some (.map none) := by kernel_rfl
@[simp, go_sem] theorem PZ166_159 : PZ166[159]? = some (.nilIface) := by kernel_rfl
@[simp, go_sem] theorem PZ166_160 : PZ166[160]? = some (.nilIface) := by kernel_rfl
@[simp, go_sem] theorem PZ166_161 : PZ166[161]? = some (.map none) := by kernel_rfl
@[simp, go_sem] theorem PZ166_162 : PZ166[162]? = some (.map none) := by kernel_rfl
@[simp, go_sem] theorem PZ166_163 : PZ166[163]? = some (.map none) := by kernel_rfl
@[simp, go_sem] theorem PZ166_164 : PZ166[164]? = some (.map none) := by kernel_rfl
@[simp, go_sem] theorem PZ166_165 : PZ166[165]? = some (.map none) := by kernel_rfl
@[simp, go_sem] theorem PZ166_166 : PZ166[166]? = some (.nilIface) := by kernel_rfl
@[simp, go_sem] theorem PZ166_167 : PZ166[167]? = some (.pointer none) := by kernel_rfl
@[simp, go_sem] theorem PZ166_168 : PZ166[168]? = some (.pointer none) := by kernel_rfl
@[simp, go_sem] theorem PZ166_169 : PZ166[169]? = some (.slice none 0 0) := by kernel_rfl
@[simp, go_sem] theorem PZ166_170 : PZ166[170]? = some (.slice none 0 0) := by kernel_rfl
@[simp, go_sem] theorem PZ166_171 : PZ166[171]? = some (.map none) := by kernel_rfl
@[simp, go_sem] theorem PZ166_172 : PZ166[172]? = some (.map none) := by kernel_rfl
@[simp, go_sem] theorem PZ166_173 : PZ166[173]? = some (.map none) := by kernel_rfl
@[simp, go_sem] theorem PZ166_174 : PZ166[174]? = some (.map none) := by kernel_rfl
@[simp, go_sem] theorem PZ166_175 : PZ166[175]? = some (.map none) := by kernel_rfl
@[simp, go_sem] theorem PZ166_176 : PZ166[176]? = some (.map none) := by kernel_rfl
@[simp, go_sem] theorem PZ166_177 : PZ166[177]? = some (.slice none 0 0) := by kernel_rfl
@[simp, go_sem] theorem PZ166_178 : PZ166[178]? = some (.string ⟨#[]⟩) := by kernel_rfl
@[simp, go_sem] theorem PZ166_179 : PZ166[179]? = some (.nilIface) := by kernel_rfl
@[simp, go_sem] theorem PZ166_180 : PZ166[180]? = some (.nilIface) := by kernel_rfl
@[simp, go_sem] theorem PZ166_181 : PZ166[181]? = some (.nilIface) := by kernel_rfl
@[simp, go_sem] theorem PZ166_182 : PZ166[182]? = some (.nilIface) := by kernel_rfl
@[simp, go_sem] theorem PZ166_183 : PZ166[183]? = some (.nilIface) := by kernel_rfl
@[simp, go_sem] theorem PZ166_184 : PZ166[184]? = some (.nilIface) := by kernel_rfl
@[simp, go_sem] theorem PZ166_185 : PZ166[185]? = some (.nilIface) := by kernel_rfl
@[simp, go_sem] theorem PZ166_186 : PZ166[186]? = some (.nilIface) := by kernel_rfl
@[simp, go_sem] theorem PZ166_187 : PZ166[187]? = some (.pointer none) := by kernel_rfl
@[simp, go_sem] theorem PZ166_188 : PZ166[188]? = some (.nilIface) := by kernel_rfl
@[simp, go_sem] theorem PZ166_189 : PZ166[189]? = some (.int .i32 0) := by kernel_rfl
@[simp, go_sem] theorem PZ166_190 : PZ166[190]? = some (.map none) := by kernel_rfl
@[simp, go_sem] theorem PZ166_191 : PZ166[191]? = some (.nilIface) := by kernel_rfl
@[simp, go_sem] theorem PZ166_192 : PZ166[192]? = some (.nilIface) := by kernel_rfl
@[simp, go_sem] theorem PZ166_193 : PZ166[193]? = some (.int .i32 0) := by kernel_rfl
@[simp, go_sem] theorem PZ166_194 : PZ166[194]? = some (.bool false) := by kernel_rfl
@[simp, go_sem] theorem PZ166_195 : PZ166[195]? = some (.bool false) := by kernel_rfl
@[simp, go_sem] theorem PZ166_196 : PZ166[196]? = some (.slice none 0 0) := by kernel_rfl
@[simp, go_sem] theorem PZ166_197 : PZ166[197]? = some (.map none) := by kernel_rfl
@[simp, go_sem] theorem PZ166_198 : PZ166[198]? = some (.slice none 0 0) := by kernel_rfl
@[simp, go_sem] theorem PZ166_199 : PZ166[199]? = some (.slice none 0 0) := by kernel_rfl
@[simp, go_sem] theorem PZ166_200 : PZ166[200]? = some (.slice none 0 0) := by kernel_rfl
@[simp, go_sem] theorem PZ166_201 : PZ166[201]? = some (.slice none 0 0) := by kernel_rfl
@[simp, go_sem] theorem PZ166_202 : PZ166[202]? = some (.slice none 0 0) := by kernel_rfl
@[simp, go_sem] theorem PZ166_203 : PZ166[203]? = some (.slice none 0 0) := by kernel_rfl
@[simp, go_sem] theorem PZ166_204 : PZ166[204]? = some (.string ⟨#[]⟩) := by kernel_rfl
@[simp, go_sem] theorem PZ166_205 : PZ166[205]? = some (.int .u32 0) := by kernel_rfl
@[simp, go_sem] theorem PZ166_206 : PZ166[206]? = some (.nilFunc) := by kernel_rfl
@[simp, go_sem] theorem PZ166_207 : PZ166[207]? = some (.nilFunc) := by kernel_rfl
@[simp, go_sem] theorem PZ166_208 : PZ166[208]? = some (.nilFunc) := by kernel_rfl
@[simp, go_sem] theorem PZ166_209 : PZ166[209]? = some (.nilFunc) := by kernel_rfl
@[simp, go_sem] theorem PZ166_210 : PZ166[210]? = some (.int .i8 0) := by kernel_rfl
@[simp, go_sem] theorem PZ166_211 : PZ166[211]? = some (.map none) := by kernel_rfl
@[simp, go_sem] theorem PZ166_212 : PZ166[212]? = some (.string ⟨#[]⟩) := by kernel_rfl
@[simp, go_sem] theorem PZ166_213 : PZ166[213]? = some (.string ⟨#[]⟩) := by kernel_rfl
@[simp, go_sem] theorem PZ166_214 : PZ166[214]? = some (.string ⟨#[]⟩) := by kernel_rfl
@[simp, go_sem] theorem PZ166_215 : PZ166[215]? = some (.string ⟨#[]⟩) := by kernel_rfl
@[simp, go_sem] theorem PZ166_216 : PZ166[216]? = some (.string ⟨#[]⟩) := by kernel_rfl
@[simp, go_sem] theorem PZ166_217 : PZ166[217]? = some (.string ⟨#[]⟩) := by kernel_rfl
@[simp, go_sem] theorem PZ166_218 : PZ166[218]? = some (.string ⟨#[]⟩) := by kernel_rfl
@[simp, go_sem] theorem PZ166_219 : PZ166[219]? = some (.string ⟨#[]⟩) := by kernel_rfl
@[simp, go_sem] theorem PZ166_220 : PZ166[220]? = some (.int .u8 0) := by kernel_rfl
@[simp, go_sem] theorem PZ166_221 : PZ166[221]? = some (.int .u32 0) := by kernel_rfl
@[simp, go_sem] theorem PZ166_222 : PZ166[222]? = some (.string ⟨#[]⟩) := by kernel_rfl
@[simp, go_sem] theorem PZ166_223 : PZ166[223]? = some (.int .i32 0) := by kernel_rfl
@[simp, go_sem] theorem PZ166_224 : PZ166[224]? = some (.int .i32 0) := by kernel_rfl
@[simp, go_sem] theorem PZ166_225 : PZ166[225]? = some (.string ⟨#[]⟩) := by kernel_rfl
@[simp, go_sem] theorem PZ166_226 : PZ166[226]? = some (.int .i32 0) := by kernel_rfl
@[simp, go_sem] theorem PZ166_227 : PZ166[227]? = some (.int .i32 0) := by kernel_rfl
@[simp, go_sem] theorem PZ166_228 : PZ166[228]? = some (.string ⟨#[]⟩) := by kernel_rfl
@[simp, go_sem] theorem PZ166_229 : PZ166[229]? = some (.int .i32 0) := by kernel_rfl
@[simp, go_sem] theorem PZ166_230 : PZ166[230]? = some (.int .i32 0) := by kernel_rfl
@[simp, go_sem] theorem PZ166_231 : PZ166[231]? = some (.string ⟨#[]⟩) := by kernel_rfl
@[simp, go_sem] theorem PZ166_232 : PZ166[232]? = some (.int .i32 0) := by kernel_rfl
@[simp, go_sem] theorem PZ166_233 : PZ166[233]? = some (.int .i32 0) := by kernel_rfl
@[simp, go_sem] theorem PZ166_234 : PZ166[234]? = some (.string ⟨#[]⟩) := by kernel_rfl
@[simp, go_sem] theorem PZ166_235 : PZ166[235]? = some (.int .i32 0) := by kernel_rfl
@[simp, go_sem] theorem PZ166_236 : PZ166[236]? = some (.int .i32 0) := by kernel_rfl
@[simp, go_sem] theorem PZ166_237 : PZ166[237]? = some (.string ⟨#[]⟩) := by kernel_rfl
@[simp, go_sem] theorem PZ166_238 : PZ166[238]? = some (.slice none 0 0) := by kernel_rfl
@[simp, go_sem] theorem PZ166_239 : PZ166[239]? = some (.string ⟨#[]⟩) := by kernel_rfl
@[simp, go_sem] theorem PZ166_240 : PZ166[240]? = some (.string ⟨#[]⟩) := by kernel_rfl
@[simp, go_sem] theorem PZ166_241 : PZ166[241]? = some (.string ⟨#[]⟩) := by kernel_rfl
@[simp, go_sem] theorem PZ166_242 : PZ166[242]? = some (.string ⟨#[]⟩) := by kernel_rfl
@[simp, go_sem] theorem PZ166_243 : PZ166[243]? = some (.string ⟨#[]⟩) := by kernel_rfl
@[simp, go_sem] theorem PZ166_244 : PZ166[244]? = some (.int .i32 0) := by kernel_rfl
@[simp, go_sem] theorem PZ166_245 : PZ166[245]? = some (.int .i32 0) := by kernel_rfl
@[simp, go_sem] theorem PZ166_246 : PZ166[246]? = some (.int .i32 0) := by kernel_rfl
@[simp, go_sem] theorem PZ166_247 : PZ166[247]? = some (.int .i32 0) := by kernel_rfl
@[simp, go_sem] theorem PZ166_248 : PZ166[248]? = some (.bool false) := by kernel_rfl
@[simp, go_sem] theorem PZ166_249 : PZ166[249]? = some (.bool false) := by kernel_rfl
@[simp, go_sem] theorem PZ166_250 : PZ166[250]? = some (.bool false) := by kernel_rfl
@[simp, go_sem] theorem PZ166_251 : PZ166[251]? = some (.int .i64 0) := by kernel_rfl
@[simp, go_sem] theorem PZ166_252 : PZ166[252]? = some (.float .f64 0) := by kernel_rfl
@[simp, go_sem] theorem PZ166_253 : PZ166[253]? = some (.int .i64 0) := by kernel_rfl
@[simp, go_sem] theorem PZ166_254 : PZ166[254]? = some (.int .i64 0) := by kernel_rfl
@[simp, go_sem] theorem PZ166_255 : PZ166[255]? = some (.int .i64 0) := by kernel_rfl
@[simp, go_sem] theorem PZ166_256 : PZ166[256]? = some (.int .i64 0) := by kernel_rfl
@[simp, go_sem] theorem PZ166_257 : PZ166[257]? = some (.int .i64 0) := by kernel_rfl
@[simp, go_sem] theorem PZ166_258 : PZ166[258]? = some (.int .i32 0) := by kernel_rfl
@[simp, go_sem] theorem PZ166_259 : PZ166[259]? = some (.int .i32 0) := by kernel_rfl
@[simp, go_sem] theorem PZ166_260 : PZ166[260]? = some (.int .i32 0) := by kernel_rfl
@[simp, go_sem] theorem PZ166_261 : PZ166[261]? = some (.int .i32 0) := by kernel_rfl
@[simp, go_sem] theorem PZ166_262 : PZ166[262]? = some (.int .i32 0) := by kernel_rfl
@[simp, go_sem] theorem PZ166_263 : PZ166[263]? = some (.int .i32 0) := by kernel_rfl
@[simp, go_sem] theorem PZ166_264 : PZ166[264]? = some (.int .i32 0) := by kernel_rfl
@[simp, go_sem] theorem PZ166_265 : PZ166[265]? = some (.int .i32 0) := by kernel_rfl
@[simp, go_sem] theorem PZ166_266 : PZ166[266]? = some (.int .i32 0) := by kernel_rfl
@[simp, go_sem] theorem PZ166_267 : PZ166[267]? = some (.int .i32 0) := by kernel_rfl
@[simp, go_sem] theorem PZ166_268 : PZ166[268]? = some (.int .i32 0) := by kernel_rfl
@[simp, go_sem] theorem PZ166_269 : PZ166[269]? = some (.int .u8 0) := by kernel_rfl
@[simp, go_sem] theorem PZ166_270 : PZ166[270]? = some (.int .u8 0) := by kernel_rfl
@[simp, go_sem] theorem PZ166_271 : PZ166[271]? = some (.int .u8 0) := by kernel_rfl
@[simp, go_sem] theorem PZ166_272 : PZ166[272]? = some (.int .u8 0) := by kernel_rfl
@[simp, go_sem] theorem PZ166_273 : PZ166[273]? = some (.int .u8 0) := by kernel_rfl
@[simp, go_sem] theorem PZ166_274 : PZ166[274]? = some (.int .u8 0) := by kernel_rfl
@[simp, go_sem] theorem PZ166_275 : PZ166[275]? = some (.int .u8 0) := by kernel_rfl
@[simp, go_sem] theorem PZ166_276 : PZ166[276]? = some (.int .u8 0) := by kernel_rfl
@[simp, go_sem] theorem PZ166_277 : PZ166[277]? = some (.bool false) := by kernel_rfl
@[simp, go_sem] theorem PZ166_278 : PZ166[278]? = some (.bool false) := by kernel_rfl
@[simp, go_sem] theorem PZ166_279 : PZ166[279]? = some (.bool false) := by kernel_rfl
@[simp, go_sem] theorem PZ166_280 : PZ166[280]? = some (.int .u8 0) := by kernel_rfl
@[simp, go_sem] theorem PZ166_281 : PZ166[281]? = some (.bool false) := by kernel_rfl
@[simp, go_sem] theorem PZ166_282 : PZ166[282]? = some (.bool false) := by kernel_rfl
@[simp, go_sem] theorem PZ166_283 : PZ166[283]? = some (.bool false) := by kernel_rfl
@[simp, go_sem] theorem PZ166_284 : PZ166[284]? = some (.bool false) := by kernel_rfl
@[simp, go_sem] theorem PZ166_285 : PZ166[285]? = some (.bool false) := by kernel_rfl
@[simp, go_sem] theorem PZ166_286 : PZ166[286]? = some (.int .i64 0) := by kernel_rfl
@[simp, go_sem] theorem PZ166_287 : PZ166[287]? = some (.int .i64 0) := by kernel_rfl
@[simp, go_sem] theorem PZ166_288 : PZ166[288]? = some (.int .i64 0) := by kernel_rfl
@[simp, go_sem] theorem PZ166_289 : PZ166[289]? = some (.int .i64 0) := by kernel_rfl
@[simp, go_sem] theorem PZ166_290 : PZ166[290]? = some (.int .i64 0) := by kernel_rfl
@[simp, go_sem] theorem PZ166_291 : PZ166[291]? = some (.int .i64 0) := by kernel_rfl
@[simp, go_sem] theorem PZ166_292 : PZ166[292]? = some (.int .u32 0) := by kernel_rfl
@[simp, go_sem] theorem PZ166_293 : PZ166[293]? = some (.int .u32 0) := by kernel_rfl
@[simp, go_sem] theorem PZ166_294 : PZ166[294]? = some (.int .u32 0) := by kernel_rfl
@[simp, go_sem] theorem PZ166_295 : PZ166[295]? = some (.int .u32 0) := by kernel_rfl
@[simp, go_sem] theorem PZ166_296 : PZ166[296]? = some (.int .u32 0) := by kernel_rfl
@[simp, go_sem] theorem PZ166_297 : PZ166[297]? = some (.int .u32 0) := by kernel_rfl
@[simp, go_sem] theorem PZ166_298 : PZ166[298]? = some (.int .u32 0) := by kernel_rfl
@[simp, go_sem] theorem PZ166_299 : PZ166[299]? = some (.int .u32 0) := by kernel_rfl
@[simp, go_sem] theorem PZ166_300 : PZ166[300]? = some (.int .u32 0) := by kernel_rfl
@[simp, go_sem] theorem PZ166_301 : PZ166[301]? = some (.int .u32 0) := by kernel_rfl
@[simp, go_sem] theorem PZ166_302 : PZ166[302]? = some (.int .u32 0) := by kernel_rfl
@[simp, go_sem] theorem PZ166_303 : PZ166[303]? = some (.int .u32 0) := by kernel_rfl
@[simp, go_sem] theorem PZ166_304 : PZ166[304]? = some (.int .u32 0) := by kernel_rfl
@[simp, go_sem] theorem PZ166_305 : PZ166[305]? = some (.int .u32 0) := by kernel_rfl
@[simp, go_sem] theorem PZ166_306 : PZ166[306]? = some (.int .u32 0) := by kernel_rfl
@[simp, go_sem] theorem PZ166_307 : PZ166[307]? = some (.int .u32 0) := by kernel_rfl
@[simp, go_sem] theorem PZ166_308 : PZ166[308]? = some (.map none) := by kernel_rfl
@[simp, go_sem] theorem PZ166_309 : PZ166[309]? = some (.map none) := by kernel_rfl
@[simp, go_sem] theorem PZ166_310 : PZ166[310]? = some (.int .u32 0) := by kernel_rfl
@[simp, go_sem] theorem PZ166_311 : PZ166[311]? = some (.int .u32 0) := by kernel_rfl
@[simp, go_sem] theorem PZ166_312 : PZ166[312]? = some (.int .u32 0) := by kernel_rfl
@[simp, go_sem] theorem PZ166_313 : PZ166[313]? = some (.int .u32 0) := by kernel_rfl
@[simp, go_sem] theorem PZ166_314 : PZ166[314]? = some (.int .i32 0) := by kernel_rfl
@[simp, go_sem] theorem PZ166_315 : PZ166[315]? = some (.int .i32 0) := by kernel_rfl
@[simp, go_sem] theorem PZ166_316 : PZ166[316]? = some (.int .i32 0) := by kernel_rfl
@[simp, go_sem] theorem PZ166_317 : PZ166[317]? = some (.int .i32 0) := by kernel_rfl
@[simp, go_sem] theorem PZ166_318 : PZ166[318]? = some (.int .i32 0) := by kernel_rfl
@[simp, go_sem] theorem PZ166_319 : PZ166[319]? = some (.int .i32 0) := by kernel_rfl
@[simp, go_sem] theorem PZ166_320 : PZ166[320]? = some (.int .i32 0) := by kernel_rfl
@[simp, go_sem] theorem PZ166_321 : PZ166[321]? = some (.int .i32 0) := by kernel_rfl
@[simp, go_sem] theorem PZ166_322 : PZ166[322]? = some (.int .i32 0) := by kernel_rfl
@[simp, go_sem] theorem PZ166_323 : PZ166[323]? = some (.int .i32 0) := by kernel_rfl
@[simp, go_sem] theorem PZ166_324 : PZ166[324]? = some (.int .i32 0) := by kernel_rfl
@[simp, go_sem] theorem PZ166_325 : PZ166[325]? = some (.int .i32 0) := by kernel_rfl
@[simp, go_sem] theorem PZ166_326 : PZ166[326]? = some (.int .i32 0) := by kernel_rfl
@[simp, go_sem] theorem PZ166_327 : PZ166[327]? = some (.int .i32 0) := by kernel_rfl
@[simp, go_sem] theorem PZ166_328 : PZ166[328]? = some (.int .i32 0) := by kernel_rfl
@[simp, go_sem] theorem PZ166_329 : PZ166[329]? = some (.int .i32 0) := by kernel_rfl
@[simp, go_sem] theorem PZ166_330 : PZ166[330]? = some (.int .i32 0) := by kernel_rfl
@[simp, go_sem] theorem PZ166_331 : PZ166[331]? = some (.bool false) := by kernel_rfl
@[simp, go_sem] theorem PZ166_332 : PZ166[332]? = some (.bool false) := by kernel_rfl
@[simp, go_sem] theorem PZ166_333 : PZ166[333]? = some (.bool false) := by kernel_rfl
@[simp, go_sem] theorem PZ166_334 : PZ166[334]? = some (.bool false) := by kernel_rfl
@[simp, go_sem] theorem PZ166_335 : PZ166[335]? = some (.bool false) := by kernel_rfl
@[simp, go_sem] theorem PZ166_336 : PZ166[336]? = some (.bool false) := by kernel_rfl
@[simp, go_sem] theorem PZ166_337 : PZ166[337]? = some (.bool false) := by kernel_rfl
@[simp, go_sem] theorem PZ166_338 : PZ166[338]? = some (.bool false) := by kernel_rfl
@[simp, go_sem] theorem PZ166_339 : PZ166[339]? = some (.int .i64 0) := by kernel_rfl
@[simp, go_sem] theorem PZ166_340 : PZ166[340]? = some (.int .i32 0) := by kernel_rfl
@[simp, go_sem] theorem PZ166_341 : PZ166[341]? = some (.bool false) := by kernel_rfl
@[simp, go_sem] theorem PZ166_342 : PZ166[342]? = some (.bool false) := by kernel_rfl
@[simp, go_sem] theorem PZ166_343 : PZ166[343]? = some (.bool false) := by kernel_rfl
@[simp, go_sem] theorem PZ166_344 : PZ166[344]? = some (.bool false) := by kernel_rfl
@[simp, go_sem] theorem PZ166_345 : PZ166[345]? = some (.bool false) := by kernel_rfl
@[simp, go_sem] theorem PZ166_346 : PZ166[346]? = some (.bool false) := by kernel_rfl
@[simp, go_sem] theorem PZ166_347 : PZ166[347]? = some (.bool false) := by kernel_rfl
@[simp, go_sem] theorem PZ166_348 : PZ166[348]? = some (.bool false) := by kernel_rfl
@[simp, go_sem] theorem PZ166_349 : PZ166[349]? = some (.bool false) := by kernel_rfl
@[simp, go_sem] theorem PZ166_350 : PZ166[350]? = some (.bool false) := by kernel_rfl
@[simp, go_sem] theorem PZ166_351 : PZ166[351]? = some (.bool false) := by kernel_rfl
@[simp, go_sem] theorem PZ166_352 : PZ166[352]? = some (.bool false) := by kernel_rfl
@[go_sem ↓] theorem fa166_0 (b o : Nat) (w : World) : (Instr.fieldAt 166 (.pointer (some ⟨b, o, none⟩)) 0).run Tryf.prog w = .ok (.pointer (some ⟨b, o, none⟩)) w := by kernel_rfl
@[go_sem ↓] theorem fa166_1 (b o : Nat) (w : World) : (Instr.fieldAt 166 (.pointer (some ⟨b, o, none⟩)) 1).run Tryf.prog w = .ok (.pointer (some ⟨b, o + 51, none⟩)) w := by kernel_rfl
@[go_sem ↓] theorem fa166_2 (b o : Nat) (w : World) : (Instr.fieldAt 166 (.pointer (some ⟨b, o, none⟩)) 2).run Tryf.prog w = .ok (.pointer (some ⟨b, o + 57, none⟩)) w := by kernel_rfl
@[go_sem ↓] theorem fa166_3 (b o : Nat) (w : World) : (Instr.fieldAt 166 (.pointer (some ⟨b, o, none⟩)) 3).run Tryf.prog w = .ok (.pointer (some ⟨b, o + 67, none⟩)) w := by kernel_rfl
@[go_sem ↓] theorem fa166_4 (b o : Nat) (w : World) : (Instr.fieldAt 166 (.pointer (some ⟨b, o, none⟩)) 4).run Tryf.prog w = .ok (.pointer (some ⟨b, o + 77, none⟩)) w := by kernel_rfl
@[go_sem ↓] theorem fa166_5 (b o : Nat) (w : World) : (Instr.fieldAt 166 (.pointer (some ⟨b, o, none⟩)) 5).run Tryf.prog w = .ok (.pointer (some ⟨b, o + 92, none⟩)) w := by kernel_rfl
@[go_sem ↓] theorem fa166_6 (b o : Nat) (w : World) : (Instr.fieldAt 166 (.pointer (some ⟨b, o, none⟩)) 6).run Tryf.prog w = .ok (.pointer (some ⟨b, o + 103, none⟩)) w := by kernel_rfl
@[go_sem ↓] theorem fa166_7 (b o : Nat) (w : World) : (Instr.fieldAt 166 (.pointer (some ⟨b, o, none⟩)) 7).run Tryf.prog w = .ok (.pointer (some ⟨b, o + 104, none⟩)) w := by kernel_rfl
@[go_sem ↓] theorem fa166_8 (b o : Nat) (w : World) : (Instr.fieldAt 166 (.pointer (some ⟨b, o, none⟩)) 8).run Tryf.prog w = .ok (.pointer (some ⟨b, o + 105, none⟩)) w := by kernel_rfl
@[go_sem ↓] theorem fa166_9 (b o : Nat) (w : World) : (Instr.fieldAt 166 (.pointer (some ⟨b, o, none⟩)) 9).run Tryf.prog w = .ok (.pointer (some ⟨b, o + 106, none⟩)) w := by kernel_rfl
@[go_sem ↓] theorem fa166_10 (b o : Nat) (w : World) : (Instr.fieldAt 166 (.pointer (some ⟨b, o, none⟩)) 10).run Tryf.prog w = .ok (.pointer (some ⟨b, o + 107, none⟩)) w := by kernel_rfl
@[go_sem ↓] theorem fa166_11 (b o : Nat) (w : World) : (Instr.fieldAt 166 (.pointer (some ⟨b, o, none⟩)) 11).run Tryf.prog w = .ok (.pointer (some ⟨b, o + 108, none⟩)) w := by kernel_rfl
@[go_sem ↓] theorem fa166_12 (b o : Nat) (w : World) : (Instr.fieldAt 166 (.pointer (some ⟨b, o, none⟩)) 12).run Tryf.prog w = .ok (.pointer (some ⟨b, o + 109, none⟩)) w := by kernel_rfl
@[go_sem ↓] theorem fa166_13 (b o : Nat) (w : World) : (Instr.fieldAt 166 (.pointer (some ⟨b, o, none⟩)) 13).run Tryf.prog w = .ok (.pointer (some ⟨b, o + 110, none⟩)) w := by kernel_rfl
@[go_sem ↓] theorem fa166_14 (b o : Nat) (w : World) : (Instr.fieldAt 166 (.pointer (some ⟨b, o, none⟩)) 14).run Tryf.prog w = .ok (.pointer (some ⟨b, o + 111, none⟩)) w := by kernel_rfl
@[go_sem ↓] theorem fa166_15 (b o : Nat) (w : World) : (Instr.fieldAt 166 (.pointer (some ⟨b, o, none⟩)) 15).run Tryf.prog w = .ok (.pointer (some ⟨b, o + 112, none⟩)) w := by kernel_rfl
@[go_sem ↓] theorem fa166_16 (b o : Nat) (w : World) : (Instr.fieldAt 166 (.pointer (some ⟨b, o, none⟩)) 16).run Tryf.prog w = .ok (.pointer (some ⟨b, o + 113, none⟩)) w := by kernel_rfl
@[go_sem ↓] theorem fa166_17 (b o : Nat) (w : World) : (Instr.fieldAt 166 (.pointer (some ⟨b, o, none⟩)) 17).run Tryf.prog w = .ok (.pointer (some ⟨b, o + 114, none⟩)) w := by kernel_rfl
@[go_sem ↓] theorem fa166_18 (b o : Nat) (w : World) : (Instr.fieldAt 166 (.pointer (some ⟨b, o, none⟩)) 18).run Tryf.prog w = .ok (.pointer (some ⟨b, o + 115, none⟩)) w := by kernel_rfl
@[go_sem ↓] theorem fa166_19 (b o : Nat) (w : World) : (Instr.fieldAt 166 (.pointer (some ⟨b, o, none⟩)) 19).run Tryf.prog w = .ok (.pointer (some ⟨b, o + 116, none⟩)) w := by kernel_rfl
@[go_sem ↓] theorem fa166_20 (b o : Nat) (w : World) : (Instr.fieldAt 166 (.pointer (some ⟨b, o, none⟩)) 20).run Tryf.prog w = .ok (.pointer (some ⟨b, o + 117, none⟩)) w := by kernel_rfl
@[go_sem ↓] theorem fa166_21 (b o : Nat) (w : World) : (Instr.fieldAt 166 (.pointer (some ⟨b, o, none⟩)) 21).run Tryf.prog w = .ok (.pointer (some ⟨b, o + 118, none⟩)) w := by kernel_rfl
@[go_sem ↓] theorem fa166_22 (b o : Nat) (w : World) : (Instr.fieldAt 166 (.pointer (some ⟨b, o, none⟩)) 22).run Tryf.prog w = .ok (.pointer (some ⟨b, o + 151, none⟩)) w := by kernel_rfl
@[go_sem ↓] theorem fa166_23 (b o : Nat) (w : World) : (Instr.fieldAt 166 (.pointer (some ⟨b, o, none⟩)) 23).run Tryf.prog w = .ok (.pointer (some ⟨b, o + 152, none⟩)) w := by kernel_rfl
@[go_sem ↓] theorem fa166_24 (b o : Nat) (w : World) : (Instr.fieldAt 166 (.pointer (some ⟨b, o, none⟩)) 24).run Tryf.prog w = .ok (.pointer (some ⟨b, o + 153, none⟩)) w := by kernel_rfl
@[go_sem ↓] theorem fa166_25 (b o : Nat) (w : World) : (Instr.fieldAt 166 (.pointer (some ⟨b, o, none⟩)) 25).run Tryf.prog w = .ok (.pointer (some ⟨b, o + 154, none⟩)) w := by kernel_rfl
@[go_sem ↓] theorem fa166_26 (b o : Nat) (w : World) : (Instr.fieldAt 166 (.pointer (some ⟨b, o, none⟩)) 26).run Tryf.prog w = .ok (.pointer (some ⟨b, o + 155, none⟩)) w := by kernel_rfl
@[go_sem ↓] theorem fa166_27 (b o : Nat) (w : World) : (Instr.fieldAt 166 (.pointer (some ⟨b, o, none⟩)) 27).run Tryf.prog w = .ok (.pointer (some ⟨b, o + 156, none⟩)) w := by kernel_rfl
@[go_sem ↓] theorem fa166_28 (b o : Nat) (w : World) : (Instr.fieldAt 166 (.pointer (some ⟨b, o, none⟩)) 28).run Tryf.prog w = .ok (.pointer (some ⟨b, o + 157, none⟩)) w := by kernel_rfl
@[go_sem ↓] theorem fa166_29 (b o : Nat) (w : World) : (Instr.fieldAt 166 (.pointer (some ⟨b, o, none⟩)) 29).run Tryf.prog w = .ok (.pointer (some ⟨b, o + 158, none⟩)) w := by kernel_rfl
@[go_sem ↓] theorem fa166_30 (b o : Nat) (w : World) : (Instr.fieldAt 166 (.pointer (some ⟨b, o, none⟩)) 30).run Tryf.prog w = .ok (.pointer (some ⟨b, o + 159, none⟩)) w := by kernel_rfl
@[go_sem ↓] theorem fa166_31 (b o : Nat) (w : World) : (Instr.fieldAt 166 (.pointer (some ⟨b, o, none⟩)) 31).run Tryf.prog w = .ok (.pointer (some ⟨b, o + 160, none⟩)) w := by kernel_rfl
@[go_sem ↓] theorem fa166_32 (b o : Nat) (w : World) : (Instr.fieldAt 166 (.pointer (some ⟨b, o, none⟩)) 32).run Tryf.prog w = .ok (.pointer (some ⟨b, o + 161, none⟩)) w := by kernel_rfl
@[go_sem ↓] theorem fa166_33 (b o : Nat) (w : World) : (Instr.fieldAt 166 (.pointer (some ⟨b, o, none⟩)) 33).run Tryf.prog w = .ok (.pointer (some ⟨b, o + 162, none⟩)) w := by kernel_rfl
@[go_sem ↓] theorem fa166_34 (b o : Nat) (w : World) : (Instr.fieldAt 166 (.pointer (some ⟨b, o, none⟩)) 34).run Tryf.prog w = .ok (.pointer (some ⟨b, o + 163, none⟩)) w := by kernel_rfl
@[go_sem ↓] theorem fa166_35 (b o : Nat) (w : World) : (Instr.fieldAt 166 (.pointer (some ⟨b, o, none⟩)) 35).run Tryf.prog w = .ok (.pointer (some ⟨b, o + 164, none⟩)) w := by kernel_rfl
@[go_sem ↓] theorem fa166_36 (b o : Nat) (w : World) : (Instr.fieldAt 166 (.pointer (some ⟨b, o, none⟩)) 36).run Tryf.prog w = .ok (.pointer (some ⟨b, o + 165, none⟩)) w := by kernel_rfl
@[go_sem ↓] theorem fa166_37 (b o : Nat) (w : World) : (Instr.fieldAt 166 (.pointer (some ⟨b, o, none⟩)) 37).run Tryf.prog w = .ok (.pointer (some ⟨b, o + 166, none⟩)) w := by kernel_rfl
@[go_sem ↓] theorem fa166_38 (b o : Nat) (w : World) : (Instr.fieldAt 166 (.pointer (some ⟨b, o, none⟩)) 38).run Tryf.prog w = .ok (.pointer (some ⟨b, o + 167, none⟩)) w := by kernel_rfl
@[go_sem ↓] theorem fa166_39 (b o : Nat) (w : World) : (Instr.fieldAt 166 (.pointer (some ⟨b, o, none⟩)) 39).run Tryf.prog w = .ok (.pointer (some ⟨b, o + 168, none⟩)) w := by kernel_rfl
@[go_sem ↓] theorem fa166_40 (b o : Nat) (w : World) : (Instr.fieldAt 166 (.pointer (some ⟨b, o, none⟩)) 40).run Tryf.prog w = .ok (.pointer (some ⟨b, o + 169, none⟩)) w := by kernel_rfl
@[go_sem ↓] theorem fa166_41 (b o : Nat) (w : World) : (Instr.fieldAt 166 (.pointer (some ⟨b, o, none⟩)) 41).run Tryf.prog w = .ok (.pointer (some ⟨b, o + 170, none⟩)) w := by kernel_rfl
@[go_sem ↓] theorem fa166_42 (b o : Nat) (w : World) : (Instr.fieldAt 166 (.pointer (some ⟨b, o, none⟩)) 42).run Tryf.prog w = .ok (.pointer (some ⟨b, o + 171, none⟩)) w := by kernel_rfl
@[go_sem ↓] theorem fa166_43 (b o : Nat) (w : World) : (Instr.fieldAt 166 (.pointer (some ⟨b, o, none⟩)) 43).run Tryf.prog w = .ok (.pointer (some ⟨b, o + 172, none⟩)) w := by kernel_rfl
@[go_sem ↓] theorem fa166_44 (b o : Nat) (w : World) : (Instr.fieldAt 166 (.pointer (some ⟨b, o, none⟩)) 44).run Tryf.prog w = .ok (.pointer (some ⟨b, o + 173, none⟩)) w := by kernel_rfl
@[go_sem ↓] theorem fa166_45 (b o : Nat) (w : World) : (Instr.fieldAt 166 (.pointer (some ⟨b, o, none⟩)) 45).run Tryf.prog w = .ok (.pointer (some ⟨b, o + 174, none⟩)) w := by kernel_rfl
@[go_sem ↓] theorem fa166_46 (b o : Nat) (w : World) : (Instr.fieldAt 166 (.pointer (some ⟨b, o, none⟩)) 46).run Tryf.prog w = .ok (.pointer (some ⟨b, o + 175, none⟩)) w := by kernel_rfl
@[go_sem ↓] theorem fa166_47 (b o : Nat) (w : World) : (Instr.fieldAt 166 (.pointer (some ⟨b, o, none⟩)) 47).run Tryf.prog w = .ok (.pointer (some ⟨b, o + 176, none⟩)) w := by kernel_rfl
@[go_sem ↓] theorem fa166_48 (b o : Nat) (w : World) : (Instr.fieldAt 166 (.pointer (some ⟨b, o, none⟩)) 48).run Tryf.prog w = .ok (.pointer (some ⟨b, o + 177, none⟩)) w := by kernel_rfl
@[go_sem ↓] theorem fa166_49 (b o : Nat) (w : World) : (Instr.fieldAt 166 (.pointer (some ⟨b, o, none⟩)) 49).run Tryf.prog w = .ok (.pointer (some ⟨b, o + 178, none⟩)) w := by kernel_rfl
@[go_sem ↓] theorem fa166_50 (b o : Nat) (w : World) : (Instr.fieldAt 166 (.pointer (some ⟨b, o, none⟩)) 50).run Tryf.prog w = .ok (.pointer (some ⟨b, o + 179, none⟩)) w := by kernel_rfl
@[go_sem ↓] theorem fa166_51 (b o : Nat) (w : World) : (Instr.fieldAt 166 (.pointer (some ⟨b, o, none⟩)) 51).run Tryf.prog w = .ok (.pointer (some ⟨b, o + 180, none⟩)) w := by kernel_rfl
@[go_sem ↓] theorem fa166_52 (b o : Nat) (w : World) : (Instr.fieldAt 166 (.pointer (some ⟨b, o, none⟩)) 52).run Tryf.prog w = .ok (.pointer (some ⟨b, o + 181, none⟩)) w := by kernel_rfl
@[go_sem ↓] theorem fa166_53 (b o : Nat) (w : World) : (Instr.fieldAt 166 (.pointer (some ⟨b, o, none⟩)) 53).run Tryf.prog w = .ok (.pointer (some ⟨b, o + 182, none⟩)) w := by kernel_rfl
@[go_sem ↓] theorem fa166_54 (b o : Nat) (w : World) : (Instr.fieldAt 166 (.pointer (some ⟨b, o, none⟩)) 54).run Tryf.prog w = .ok (.pointer (some ⟨b, o + 183, none⟩)) w := by kernel_rfl
@[go_sem ↓] theorem fa166_55 (b o : Nat) (w : World) : (Instr.fieldAt 166 (.pointer (some ⟨b, o, none⟩)) 55).run Tryf.prog w = .ok (.pointer (some ⟨b, o + 184, none⟩)) w := by kernel_rfl
@[go_sem ↓] theorem fa166_56 (b o : Nat) (w : World) : (Instr.fieldAt 166 (.pointer (some ⟨b, o, none⟩)) 56).run Tryf.prog w = .ok (.pointer (some ⟨b, o + 185, none⟩)) w := by kernel_rfl
@[go_sem ↓] theorem fa166_57 (b o : Nat) (w : World) : (Instr.fieldAt 166 (.pointer (some ⟨b, o, none⟩)) 57).run Tryf.prog w = .ok (.pointer (some ⟨b, o + 186, none⟩)) w := by kernel_rfl
@[go_sem ↓] theorem fa166_58 (b o : Nat) (w : World) : (Instr.fieldAt 166 (.pointer (some ⟨b, o, none⟩)) 58).run Tryf.prog w = .ok (.pointer (some ⟨b, o + 187, none⟩)) w := by kernel_rfl
@[go_sem ↓] theorem fa166_59 (b o : Nat) (w : World) : (Instr.fieldAt 166 (.pointer (some ⟨b, o, none⟩)) 59).run Tryf.prog w = .ok (.pointer (some ⟨b, o + 188, none⟩)) w := by kernel_rfl
@[go_sem ↓] theorem fa166_60 (b o : Nat) (w : World) : (Instr.fieldAt 166 (.pointer (some ⟨b, o, none⟩)) 60).run Tryf.prog w = .ok (.pointer (some ⟨b, o + 190, none⟩)) w := by kernel_rfl
@[go_sem ↓] theorem fa166_61 (b o : Nat) (w : World) : (Instr.fieldAt 166 (.pointer (some ⟨b, o, none⟩)) 61).run Tryf.prog w = .ok (.pointer (some ⟨b, o + 191, none⟩)) w := by kernel_rfl
@[go_sem ↓] theorem fa166_62 (b o : Nat) (w : World) : (Instr.fieldAt 166 (.pointer (some ⟨b, o, none⟩)) 62).run Tryf.prog w = .ok (.pointer (some ⟨b, o + 192, none⟩)) w := by kernel_rfl
@[go_sem ↓] theorem fa166_63 (b o : Nat) (w : World) : (Instr.fieldAt 166 (.pointer (some ⟨b, o, none⟩)) 63).run Tryf.prog w = .ok (.pointer (some ⟨b, o + 196, none⟩)) w := by kernel_rfl
@[go_sem ↓] theorem fa166_64 (b o : Nat) (w : World) : (Instr.fieldAt 166 (.pointer (some ⟨b, o, none⟩)) 64).run Tryf.prog w = .ok (.pointer (some ⟨b, o + 197, none⟩)) w := by kernel_rfl
@[go_sem ↓] theorem fa166_65 (b o : Nat) (w : World) : (Instr.fieldAt 166 (.pointer (some ⟨b, o, none⟩)) 65).run Tryf.prog w = .ok (.pointer (some ⟨b, o + 198, none⟩)) w := by kernel_rfl
@[go_sem ↓] theorem fa166_66 (b o : Nat) (w : World) : (Instr.fieldAt 166 (.pointer (some ⟨b, o, none⟩)) 66).run Tryf.prog w = .ok (.pointer (some ⟨b, o + 199, none⟩)) w := by kernel_rfl
@[go_sem ↓] theorem fa166_67 (b o : Nat) (w : World) : (Instr.fieldAt 166 (.pointer (some ⟨b, o, none⟩)) 67).run Tryf.prog w = .ok (.pointer (some ⟨b, o + 200, none⟩)) w := by kernel_rfl
@[go_sem ↓] theorem fa166_68 (b o : Nat) (w : World) : (Instr.fieldAt 166 (.pointer (some ⟨b, o, none⟩)) 68).run Tryf.prog w = .ok (.pointer (some ⟨b, o + 201, none⟩)) w := by kernel_rfl
@[go_sem ↓] theorem fa166_69 (b o : Nat) (w : World) : (Instr.fieldAt 166 (.pointer (some ⟨b, o, none⟩)) 69).run Tryf.prog w = .ok (.pointer (some ⟨b, o + 286, none⟩)) w := by kernel_rfl
@[go_sem ↓] theorem fa166_70 (b o : Nat) (w : World) : (Instr.fieldAt 166 (.pointer (some ⟨b, o, none⟩)) 70).run Tryf.prog w = .ok (.pointer (some ⟨b, o + 287, none⟩)) w := by kernel_rfl
@[go_sem ↓] theorem fa166_71 (b o : Nat) (w : World) : (Instr.fieldAt 166 (.pointer (some ⟨b, o, none⟩)) 71).run Tryf.prog w = .ok (.pointer (some ⟨b, o + 288, none⟩)) w := by kernel_rfl
@[go_sem ↓] theorem fa166_72 (b o : Nat) (w : World) : (Instr.fieldAt 166 (.pointer (some ⟨b, o, none⟩)) 72).run Tryf.prog w = .ok (.pointer (some ⟨b, o + 289, none⟩)) w := by kernel_rfl
@[go_sem ↓] theorem fa166_73 (b o : Nat) (w : World) : (Instr.fieldAt 166 (.pointer (some ⟨b, o, none⟩)) 73).run Tryf.prog w = .ok (.pointer (some ⟨b, o + 290, none⟩)) w := by kernel_rfl
@[go_sem ↓] theorem fa166_74 (b o : Nat) (w : World) : (Instr.fieldAt 166 (.pointer (some ⟨b, o, none⟩)) 74).run Tryf.prog w = .ok (.pointer (some ⟨b, o + 291, none⟩)) w := by kernel_rfl
@[go_sem ↓] theorem fa166_75 (b o : Nat) (w : World) : (Instr.fieldAt 166 (.pointer (some ⟨b, o, none⟩)) 75).run Tryf.prog w = .ok (.pointer (some ⟨b, o + 292, none⟩)) w := by kernel_rfl
@[go_sem ↓] theorem fa166_76 (b o : Nat) (w : World) : (Instr.fieldAt 166 (.pointer (some ⟨b, o, none⟩)) 76).run Tryf.prog w = .ok (.pointer (some ⟨b, o + 294, none⟩)) w := by kernel_rfl
@[go_sem ↓] theorem fa166_77 (b o : Nat) (w : World) : (Instr.fieldAt 166 (.pointer (some ⟨b, o, none⟩)) 77).run Tryf.prog w = .ok (.pointer (some ⟨b, o + 296, none⟩)) w := by kernel_rfl
@[go_sem ↓] theorem fa166_78 (b o : Nat) (w : World) : (Instr.fieldAt 166 (.pointer (some ⟨b, o, none⟩)) 78).run Tryf.prog w = .ok (.pointer (some ⟨b, o + 298, none⟩)) w := by kernel_rfl
@[go_sem ↓] theorem fa166_79 (b o : Nat) (w : World) : (Instr.fieldAt 166 (.pointer (some ⟨b, o, none⟩)) 79).run Tryf.prog w = .ok (.pointer (some ⟨b, o + 300, none⟩)) w := by kernel_rfl
@[go_sem ↓] theorem fa166_80 (b o : Nat) (w : World) : (Instr.fieldAt 166 (.pointer (some ⟨b, o, none⟩)) 80).run Tryf.prog w = .ok (.pointer (some ⟨b, o + 302, none⟩)) w := by kernel_rfl
@[go_sem ↓] theorem fa166_81 (b o : Nat) (w : World) : (Instr.fieldAt 166 (.pointer (some ⟨b, o, none⟩)) 81).run Tryf.prog w = .ok (.pointer (some ⟨b, o + 304, none⟩)) w := by kernel_rfl
@[go_sem ↓] theorem fa166_82 (b o : Nat) (w : World) : (Instr.fieldAt 166 (.pointer (some ⟨b, o, none⟩)) 82).run Tryf.prog w = .ok (.pointer (some ⟨b, o + 306, none⟩)) w := by kernel_rfl
@[go_sem ↓] theorem fa166_83 (b o : Nat) (w : World) : (Instr.fieldAt 166 (.pointer (some ⟨b, o, none⟩)) 83).run Tryf.prog w = .ok (.pointer (some ⟨b, o + 308, none⟩)) w := by kernel_rfl
@[go_sem ↓] theorem fa166_84 (b o : Nat) (w : World) : (Instr.fieldAt 166 (.pointer (some ⟨b, o, none⟩)) 84).run Tryf.prog w = .ok (.pointer (some ⟨b, o + 309, none⟩)) w := by kernel_rfl
@[go_sem ↓] theorem fa166_85 (b o : Nat) (w : World) : (Instr.fieldAt 166 (.pointer (some ⟨b, o, none⟩)) 85).run Tryf.prog w = .ok (.pointer (some ⟨b, o + 310, none⟩)) w := by kernel_rfl
@[go_sem ↓] theorem fa166_86 (b o : Nat) (w : World) : (Instr.fieldAt 166 (.pointer (some ⟨b, o, none⟩)) 86).run Tryf.prog w = .ok (.pointer (some ⟨b, o + 312, none⟩)) w := by kernel_rfl
@[go_sem ↓] theorem fa166_87 (b o : Nat) (w : World) : (Instr.fieldAt 166 (.pointer (some ⟨b, o, none⟩)) 87).run Tryf.prog w = .ok (.pointer (some ⟨b, o + 314, none⟩)) w := by kernel_rfl
@[go_sem ↓] theorem fa166_88 (b o : Nat) (w : World) : (Instr.fieldAt 166 (.pointer (some ⟨b, o, none⟩)) 88).run Tryf.prog w = .ok (.pointer (some ⟨b, o + 316, none⟩)) w := by kernel_rfl
@[go_sem ↓] theorem fa166_89 (b o : Nat) (w : World) : (Instr.fieldAt 166 (.pointer (some ⟨b, o, none⟩)) 89).run Tryf.prog w = .ok (.pointer (some ⟨b, o + 318, none⟩)) w := by kernel_rfl
@[go_sem ↓] theorem fa166_90 (b o : Nat) (w : World) : (Instr.fieldAt 166 (.pointer (some ⟨b, o, none⟩)) 90).run Tryf.prog w = .ok (.pointer (some ⟨b, o + 320, none⟩)) w := by kernel_rfl
@[go_sem ↓] theorem fa166_91 (b o : Nat) (w : World) : (Instr.fieldAt 166 (.pointer (some ⟨b, o, none⟩)) 91).run Tryf.prog w = .ok (.pointer (some ⟨b, o + 322, none⟩)) w := by kernel_rfl
@[go_sem ↓] theorem fa166_92 (b o : Nat) (w : World) : (Instr.fieldAt 166 (.pointer (some ⟨b, o, none⟩)) 92).run Tryf.prog w = .ok (.pointer (some ⟨b, o + 324, none⟩)) w := by kernel_rfl
@[go_sem ↓] theorem fa166_93 (b o : Nat) (w : World) : (Instr.fieldAt 166 (.pointer (some ⟨b, o, none⟩)) 93).run Tryf.prog w = .ok (.pointer (some ⟨b, o + 326, none⟩)) w := by kernel_rfl
@[go_sem ↓] theorem fa166_94 (b o : Nat) (w : World) : (Instr.fieldAt 166 (.pointer (some ⟨b, o, none⟩)) 94).run Tryf.prog w = .ok (.pointer (some ⟨b, o + 327, none⟩)) w := by kernel_rfl
@[go_sem ↓] theorem fa166_95 (b o : Nat) (w : World) : (Instr.fieldAt 166 (.pointer (some ⟨b, o, none⟩)) 95).run Tryf.prog w = .ok (.pointer (some ⟨b, o + 328, none⟩)) w := by kernel_rfl
@[go_sem ↓] theorem fa166_96 (b o : Nat) (w : World) : (Instr.fieldAt 166 (.pointer (some ⟨b, o, none⟩)) 96).run Tryf.prog w = .ok (.pointer (some ⟨b, o + 329, none⟩)) w := by kernel_rfl
@[go_sem ↓] theorem fa166_97 (b o : Nat) (w : World) : (Instr.fieldAt 166 (.pointer (some ⟨b, o, none⟩)) 97).run Tryf.prog w = .ok (.pointer (some ⟨b, o + 339, none⟩)) w := by kernel_rfl
@[go_sem ↓] theorem fa166_98 (b o : Nat) (w : World) : (Instr.fieldAt 166 (.pointer (some ⟨b, o, none⟩)) 98).run Tryf.prog w = .ok (.pointer (some ⟨b, o + 340, none⟩)) w := by kernel_rfl
@[go_sem ↓] theorem fa166_99 (b o : Nat) (w : World) : (Instr.fieldAt 166 (.pointer (some ⟨b, o, none⟩)) 99).run Tryf.prog w = .ok (.pointer (some ⟨b, o + 341, none⟩)) w := by kernel_rfl
@[go_sem ↓] theorem fa166_100 (b o : Nat) (w : World) : (Instr.fieldAt 166 (.pointer (some ⟨b, o, none⟩)) 100).run Tryf.prog w = .ok (.pointer (some ⟨b, o + 342, none⟩)) w := by kernel_rfl
@[go_sem ↓] theorem fa166_101 (b o : Nat) (w : World) : (Instr.fieldAt 166 (.pointer (some ⟨b, o, none⟩)) 101).run Tryf.prog w = .ok (.pointer (some ⟨b, o + 343, none⟩)) w := by kernel_rfl
@[go_sem ↓] theorem fa166_102 (b o : Nat) (w : World) : (Instr.fieldAt 166 (.pointer (some ⟨b, o, none⟩)) 102).run Tryf.prog w = .ok (.pointer (some ⟨b, o + 344, none⟩)) w := by kernel_rfl
@[go_sem ↓] theorem fa166_103 (b o : Nat) (w : World) : (Instr.fieldAt 166 (.pointer (some ⟨b, o, none⟩)) 103).run Tryf.prog w = .ok (.pointer (some ⟨b, o + 345, none⟩)) w := by kernel_rfl
@[go_sem ↓] theorem fa166_104 (b o : Nat) (w : World) : (Instr.fieldAt 166 (.pointer (some ⟨b, o, none⟩)) 104).run Tryf.prog w = .ok (.pointer (some ⟨b, o + 346, none⟩)) w := by kernel_rfl
@[go_sem ↓] theorem fa166_105 (b o : Nat) (w : World) : (Instr.fieldAt 166 (.pointer (some ⟨b, o, none⟩)) 105).run Tryf.prog w = .ok (.pointer (some ⟨b, o + 347, none⟩)) w := by kernel_rfl
@[go_sem ↓] theorem fa166_106 (b o : Nat) (w : World) : (Instr.fieldAt 166 (.pointer (some ⟨b, o, none⟩)) 106).run Tryf.prog w = .ok (.pointer (some ⟨b, o + 348, none⟩)) w := by kernel_rfl
@[go_sem ↓] theorem fa166_107 (b o : Nat) (w : World) : (Instr.fieldAt 166 (.pointer (some ⟨b, o, none⟩)) 107).run Tryf.prog w = .ok (.pointer (some ⟨b, o + 349, none⟩)) w := by kernel_rfl
@[go_sem ↓] theorem fa166_108 (b o : Nat) (w : World) : (Instr.fieldAt 166 (.pointer (some ⟨b, o, none⟩)) 108).run Tryf.prog w = .ok (.pointer (some ⟨b, o + 350, none⟩)) w := by kernel_rfl
@[go_sem ↓] theorem fa166_109 (b o : Nat) (w : World) : (Instr.fieldAt 166 (.pointer (some ⟨b, o, none⟩)) 109).run Tryf.prog w = .ok (.pointer (some ⟨b, o + 351, none⟩)) w := by kernel_rfl
@[go_sem ↓] theorem fa166_110 (b o : Nat) (w : World) : (Instr.fieldAt 166 (.pointer (some ⟨b, o, none⟩)) 110).run Tryf.prog w = .ok (.pointer (some ⟨b, o + 352, none⟩)) w := by kernel_rfl
noncomputable def PZ179 : Array Value := match (Tryf.prog.info? 179).bind (·.zero) with | some (.agg c) => c | _ => #[]
@[go_sem ↓] theorem zv179 (w : World) : (zeroValue 179).run Tryf.prog w = .ok (.agg PZ179) w := by kernel_rfl
@[simp, go_sem] theorem PZ179_size : PZ179.size = 16 := by kernel_rfl
@[simp, go_sem] theorem PZ179_0 : PZ179[0]? = some (.pointer none) := by kernel_rfl
@[simp, go_sem] theorem PZ179_1 : PZ179[1]? = some (.pointer none) := by kernel_rfl
@[simp, go_sem] theorem PZ179_2 : PZ179[2]? = some (.slice none 0 0) := by kernel_rfl
@[simp, go_sem] theorem PZ179_3 : PZ179[3]? = some (.map none) := by kernel_rfl
@[simp, go_sem] theorem PZ179_4 : PZ179[4]? = some (.slice none 0 0) := by kernel_rfl
@[simp, go_sem] theorem PZ179_5 : PZ179[5]? = some (.slice none 0 0) := by kernel_rfl
@[simp, go_sem] theorem PZ179_6 : PZ179[6]? = some (.int .i32 0) := by kernel_rfl
@[simp, go_sem] theorem PZ179_7 : PZ179[7]? = some (.int .i32 0) := by kernel_rfl
@[simp, go_sem] theorem PZ179_8 : PZ179[8]? = some (.int .u32 0) := by kernel_rfl
@[simp, go_sem] theorem PZ179_9 : PZ179[9]? = some (.int .u32 0) := by kernel_rfl
@[simp, go_sem] theorem PZ179_10 : PZ179[10]? = some (.bool false) := by kernel_rfl
@[simp, go_sem] theorem PZ179_11 : PZ179[11]? = some (.bool false) := by kernel_rfl
@[simp, go_sem] theorem PZ179_12 : PZ179[12]? = some (.bool false) := by kernel_rfl
@[simp, go_sem] theorem PZ179_13 : PZ179[13]? = some (.bool false) := by kernel_rfl
@[simp, go_sem] theorem PZ179_14 : PZ179[14]? = some (.int .u8 0) := by kernel_rfl
@[simp, go_sem] theorem PZ179_15 : PZ179[15]? = some (.int .u8 0) := by kernel_rfl
@[go_sem ↓] theorem fa179_0 (b o : Nat) (w : World) : (Instr.fieldAt 179 (.pointer (some ⟨b, o, none⟩)) 0).run Tryf.prog w = .ok (.pointer (some ⟨b, o, none⟩)) w := by kernel_rfl
@[go_sem ↓] theorem fa179_1 (b o : Nat) (w : World) : (Instr.fieldAt 179 (.pointer (some ⟨b, o, none⟩)) 1).run Tryf.prog w = .ok (.pointer (some ⟨b, o + 1, none⟩)) w := by kernel_rfl
@[go_sem ↓] theorem fa179_2 (b o : Nat) (w : World) : (Instr.fieldAt 179 (.pointer (some ⟨b, o, none⟩)) 2).run Tryf.prog w = .ok (.pointer (some ⟨b, o + 2, none⟩)) w := by kernel_rfl
@[go_sem ↓] theorem fa179_3 (b o : Nat) (w : World) : (Instr.fieldAt 179 (.pointer (some ⟨b, o, none⟩)) 3).run Tryf.prog w = .ok (.pointer (some ⟨b, o + 3, none⟩)) w := by kernel_rfl
@[go_sem ↓] theorem fa179_4 (b o : Nat) (w : World) : (Instr.fieldAt 179 (.pointer (some ⟨b, o, none⟩)) 4).run Tryf.prog w = .ok (.pointer (some ⟨b, o + 4, none⟩)) w := by kernel_rfl
@[go_sem ↓] theorem fa179_5 (b o : Nat) (w : World) : (Instr.fieldAt 179 (.pointer (some ⟨b, o, none⟩)) 5).run Tryf.prog w = .ok (.pointer (some ⟨b, o + 5, none⟩)) w := by kernel_rfl
@[go_sem ↓] theorem fa179_6 (b o : Nat) (w : World) : (Instr.fieldAt 179 (.pointer (some ⟨b, o, none⟩)) 6).run Tryf.prog w = .ok (.pointer (some ⟨b, o + 6, none⟩)) w := by kernel_rfl
@[go_sem ↓] theorem fa179_7 (b o : Nat) (w : World) : (Instr.fieldAt 179 (.pointer (some ⟨b, o, none⟩)) 7).run Tryf.prog w = .ok (.pointer (some ⟨b, o + 7, none⟩)) w := by kernel_rfl
@[go_sem ↓] theorem fa179_8 (b o : Nat) (w : World) : (Instr.fieldAt 179 (.pointer (some ⟨b, o, none⟩)) 8).run Tryf.prog w = .ok (.pointer (some ⟨b, o + 10, none⟩)) w := by kernel_rfl
@[go_sem ↓] theorem fa179_9 (b o : Nat) (w : World) : (Instr.fieldAt 179 (.pointer (some ⟨b, o, none⟩)) 9).run Tryf.prog w = .ok (.pointer (some ⟨b, o + 11, none⟩)) w := by kernel_rfl
@[go_sem ↓] theorem fa179_10 (b o : Nat) (w : World) : (Instr.fieldAt 179 (.pointer (some ⟨b, o, none⟩)) 10).run Tryf.prog w = .ok (.pointer (some ⟨b, o + 12, none⟩)) w := by kernel_rfl
@[go_sem ↓] theorem fa179_11 (b o : Nat) (w : World) : (Instr.fieldAt 179 (.pointer (some ⟨b, o, none⟩)) 11).run Tryf.prog w = .ok (.pointer (some ⟨b, o + 13, none⟩)) w := by kernel_rfl
@[go_sem ↓] theorem fa179_12 (b o : Nat) (w : World) : (Instr.fieldAt 179 (.pointer (some ⟨b, o, none⟩)) 12).run Tryf.prog w = .ok (.pointer (some ⟨b, o + 14, none⟩)) w := by kernel_rfl
@[go_sem ↓] theorem fa179_13 (b o : Nat) (w : World) : (Instr.fieldAt 179 (.pointer (some ⟨b, o, none⟩)) 13).run Tryf.prog w = .ok (.pointer (some ⟨b, o + 15, none⟩)) w := by kernel_rfl
noncomputable def PZ181 : Array Value := match (Tryf.prog.info? 181).bind (·.zero) with | some (.agg c) => c | _ => #[]
@[go_sem ↓] theorem zv181 (w : World) : (zeroValue 181).run Tryf.prog w = .ok (.agg PZ181) w := by kernel_rfl
@[simp, go_sem] theorem PZ181_size : PZ181.size = 14 := by kernel_rfl
@[simp, go_sem] theorem PZ181_0 : PZ181[0]? = some (.string ⟨#[]⟩) := by kernel_rfl
@[simp, go_sem] theorem PZ181_1 : PZ181[1]? = some (.string ⟨#[]⟩) := by kernel_rfl
@[simp, go_sem] theorem PZ181_2 : PZ181[2]? = some (.string ⟨#[]⟩) := by kernel_rfl
@[simp, go_sem] theorem PZ181_3 : PZ181[3]? = some (.string ⟨#[]⟩) := by kernel_rfl
@[simp, go_sem] theorem PZ181_4 : PZ181[4]? = some (.string ⟨#[]⟩) := by kernel_rfl
@[simp, go_sem] theorem PZ181_5 : PZ181[5]? = some (.string ⟨#[]⟩) := by kernel_rfl
@[simp, go_sem] theorem PZ181_6 : PZ181[6]? = some (.string ⟨#[]⟩) := by kernel_rfl
@[simp, go_sem] theorem PZ181_7 : PZ181[7]? = some (.string ⟨#[]⟩) := by kernel_rfl
@[simp, go_sem] theorem PZ181_8 : PZ181[8]? = some (.string ⟨#[]⟩) := by kernel_rfl
@[simp, go_sem] theorem PZ181_9 : PZ181[9]? = some (.int .u8 0) := by kernel_rfl
@[simp, go_sem] theorem PZ181_10 : PZ181[10]? = some (.int .u32 0) := by kernel_rfl
@[simp, go_sem] theorem PZ181_11 : PZ181[11]? = some (.int .i32 0) := by kernel_rfl
@[simp, go_sem] theorem PZ181_12 : PZ181[12]? = some (.int .i32 0) := by kernel_rfl
@[simp, go_sem] theorem PZ181_13 : PZ181[13]? = some (.bool false) := by kernel_rfl
@[go_sem ↓] theorem fa181_0 (b o : Nat) (w : World) : (Instr.fieldAt 181 (.pointer (some ⟨b, o, none⟩)) 0).run Tryf.prog w = .ok (.pointer (some ⟨b, o, none⟩)) w := by kernel_rfl
@[go_sem ↓] theorem fa181_1 (b o : Nat) (w : World) : (Instr.fieldAt 181 (.pointer (some ⟨b, o, none⟩)) 1).run Tryf.prog w = .ok (.pointer (some ⟨b, o + 1, none⟩)) w := by kernel_rfl
@[go_sem ↓] theorem fa181_2 (b o : Nat) (w : World) : (Instr.fieldAt 181 (.pointer (some ⟨b, o, none⟩)) 2).run Tryf.prog w = .ok (.pointer (some ⟨b, o + 11, none⟩)) w := by kernel_rfl
@[go_sem ↓] theorem fa181_3 (b o : Nat) (w : World) : (Instr.fieldAt 181 (.pointer (some ⟨b, o, none⟩)) 3).run Tryf.prog w = .ok (.pointer (some ⟨b, o + 13, none⟩)) w := by kernel_rfl

end Go.Proofs.YtidicogmfpfibaaFmt
