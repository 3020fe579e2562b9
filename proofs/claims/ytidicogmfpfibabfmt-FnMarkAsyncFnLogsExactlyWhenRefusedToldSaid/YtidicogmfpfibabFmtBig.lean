/-
  The struct types of many fields: the zero value's cells behind a name, where each field lies, what each zero cell holds.
-/
import Derived.Test.YtidicogmfpfibabFmtKit
namespace Go.Proofs.YtidicogmfpfibabFmt
set_option maxRecDepth 100000

noncomputable def PZ71 : Array Value := match (Tryf.prog.info? 71).bind (·.zero) with | some (.agg c) => c | _ => #[]
@[go_sem ↓] theorem zv71 (w : World) : (zeroValue 71).run Tryf.prog w = .ok (.agg PZ71) w := by kernel_rfl
@[simp, go_sem] theorem PZ71_size : PZ71.size = 33 := by kernel_rfl
@[simp, go_sem] theorem PZ71_0 : PZ71[0]? = some (.string ⟨#[]⟩) := by kernel_rfl
@[simp, go_sem] theorem PZ71_1 : PZ71[1]? = some (.pointer none) := by kernel_rfl
@[simp, go_sem] theorem PZ71_2 : PZ71[2]? = some (.int .i32 0) := by kernel_rfl
@[simp, go_sem] theorem PZ71_3 : PZ71[3]? = some (.int .i32 0) := by kernel_rfl
@[simp, go_sem] theorem PZ71_4 : PZ71[4]? = some (.int .u8 0) := by kernel_rfl
@[simp, go_sem] theorem PZ71_5 : PZ71[5]? = some (.int .u64 0) := by kernel_rfl
@[simp, go_sem] theorem PZ71_6 : PZ71[6]? = some (.int .u64 0) := by kernel_rfl
@[simp, go_sem] theorem PZ71_7 : PZ71[7]? = some (.int .u64 0) := by kernel_rfl
@[simp, go_sem] theorem PZ71_8 : PZ71[8]? = some (.int .u8 0) := by kernel_rfl
@[simp, go_sem] theorem PZ71_9 : PZ71[9]? = some (.int .u8 0) := by kernel_rfl
@[simp, go_sem] theorem PZ71_10 : PZ71[10]? = some (.int .u8 0) := by kernel_rfl
@[simp, go_sem] theorem PZ71_11 : PZ71[11]? = some (.int .u8 0) := by kernel_rfl
@[simp, go_sem] theorem PZ71_12 : PZ71[12]? = some (.int .u8 0) := by kernel_rfl
@[simp, go_sem] theorem PZ71_13 : PZ71[13]? = some (.int .u8 0) := by kernel_rfl
@[simp, go_sem] theorem PZ71_14 : PZ71[14]? = some (.bool false) := by kernel_rfl
@[simp, go_sem] theorem PZ71_15 : PZ71[15]? = some (.bool false) := by kernel_rfl
@[simp, go_sem] theorem PZ71_16 : PZ71[16]? = some (.int .u8 0) := by kernel_rfl
@[simp, go_sem] theorem PZ71_17 : PZ71[17]? = some (.int .u8 0) := by kernel_rfl
@[simp, go_sem] theorem PZ71_18 : PZ71[18]? = some (.int .u8 0) := by kernel_rfl
@[simp, go_sem] theorem PZ71_19 : PZ71[19]? = some (.int .u8 0) := by kernel_rfl
@[simp, go_sem] theorem PZ71_20 : PZ71[20]? = some (.int .u8 0) := by kernel_rfl
@[simp, go_sem] theorem PZ71_21 : PZ71[21]? = some (.bool false) := by kernel_rfl
@[simp, go_sem] theorem PZ71_22 : PZ71[22]? = some (.bool false) := by kernel_rfl
@[simp, go_sem] theorem PZ71_23 : PZ71[23]? = some (.bool false) := by kernel_rfl
@[simp, go_sem] theorem PZ71_24 : PZ71[24]? = some (.bool false) := by kernel_rfl
@[simp, go_sem] theorem PZ71_25 : PZ71[25]? = some (.bool false) := by kernel_rfl
@[simp, go_sem] theorem PZ71_26 : PZ71[26]? = some (.bool false) := by kernel_rfl
@[simp, go_sem] theorem PZ71_27 : PZ71[27]? = some (.bool false) := by kernel_rfl
@[simp, go_sem] theorem PZ71_28 : PZ71[28]? = some (.bool false) := by kernel_rfl
@[simp, go_sem] theorem PZ71_29 : PZ71[29]? = some (.bool false) := by kernel_rfl
@[simp, go_sem] theorem PZ71_30 : PZ71[30]? = some (.bool false) := by kernel_rfl
@[simp, go_sem] theorem PZ71_31 : PZ71[31]? = some (.bool false) := by kernel_rfl
@[simp, go_sem] theorem PZ71_32 : PZ71[32]? = some (.bool false) := by kernel_rfl
@[go_sem ↓] theorem fa71_0 (b o : Nat) (w : World) : (Instr.fieldAt 71 (.pointer (some ⟨b, o, none⟩)) 0).run Tryf.prog w = .ok (.pointer (some ⟨b, o, none⟩)) w := by kernel_rfl
@[go_sem ↓] theorem fa71_1 (b o : Nat) (w : World) : (Instr.fieldAt 71 (.pointer (some ⟨b, o, none⟩)) 1).run Tryf.prog w = .ok (.pointer (some ⟨b, o + 1, none⟩)) w := by kernel_rfl
@[go_sem ↓] theorem fa71_2 (b o : Nat) (w : World) : (Instr.fieldAt 71 (.pointer (some ⟨b, o, none⟩)) 2).run Tryf.prog w = .ok (.pointer (some ⟨b, o + 5, none⟩)) w := by kernel_rfl
@[go_sem ↓] theorem fa71_3 (b o : Nat) (w : World) : (Instr.fieldAt 71 (.pointer (some ⟨b, o, none⟩)) 3).run Tryf.prog w = .ok (.pointer (some ⟨b, o + 6, none⟩)) w := by kernel_rfl
@[go_sem ↓] theorem fa71_4 (b o : Nat) (w : World) : (Instr.fieldAt 71 (.pointer (some ⟨b, o, none⟩)) 4).run Tryf.prog w = .ok (.pointer (some ⟨b, o + 7, none⟩)) w := by kernel_rfl
@[go_sem ↓] theorem fa71_5 (b o : Nat) (w : World) : (Instr.fieldAt 71 (.pointer (some ⟨b, o, none⟩)) 5).run Tryf.prog w = .ok (.pointer (some ⟨b, o + 8, none⟩)) w := by kernel_rfl
@[go_sem ↓] theorem fa71_6 (b o : Nat) (w : World) : (Instr.fieldAt 71 (.pointer (some ⟨b, o, none⟩)) 6).run Tryf.prog w = .ok (.pointer (some ⟨b, o + 16, none⟩)) w := by kernel_rfl
@[go_sem ↓] theorem fa71_7 (b o : Nat) (w : World) : (Instr.fieldAt 71 (.pointer (some ⟨b, o, none⟩)) 7).run Tryf.prog w = .ok (.pointer (some ⟨b, o + 17, none⟩)) w := by kernel_rfl
@[go_sem ↓] theorem fa71_8 (b o : Nat) (w : World) : (Instr.fieldAt 71 (.pointer (some ⟨b, o, none⟩)) 8).run Tryf.prog w = .ok (.pointer (some ⟨b, o + 18, none⟩)) w := by kernel_rfl
@[go_sem ↓] theorem fa71_9 (b o : Nat) (w : World) : (Instr.fieldAt 71 (.pointer (some ⟨b, o, none⟩)) 9).run Tryf.prog w = .ok (.pointer (some ⟨b, o + 19, none⟩)) w := by kernel_rfl
@[go_sem ↓] theorem fa71_10 (b o : Nat) (w : World) : (Instr.fieldAt 71 (.pointer (some ⟨b, o, none⟩)) 10).run Tryf.prog w = .ok (.pointer (some ⟨b, o + 20, none⟩)) w := by kernel_rfl
@[go_sem ↓] theorem fa71_11 (b o : Nat) (w : World) : (Instr.fieldAt 71 (.pointer (some ⟨b, o, none⟩)) 11).run Tryf.prog w = .ok (.pointer (some ⟨b, o + 21, none⟩)) w := by kernel_rfl
@[go_sem ↓] theorem fa71_12 (b o : Nat) (w : World) : (Instr.fieldAt 71 (.pointer (some ⟨b, o, none⟩)) 12).run Tryf.prog w = .ok (.pointer (some ⟨b, o + 22, none⟩)) w := by kernel_rfl
@[go_sem ↓] theorem fa71_13 (b o : Nat) (w : World) : (Instr.fieldAt 71 (.pointer (some ⟨b, o, none⟩)) 13).run Tryf.prog w = .ok (.pointer (some ⟨b, o + 23, none⟩)) w := by kernel_rfl
@[go_sem ↓] theorem fa71_14 (b o : Nat) (w : World) : (Instr.fieldAt 71 (.pointer (some ⟨b, o, none⟩)) 14).run Tryf.prog w = .ok (.pointer (some ⟨b, o + 24, none⟩)) w := by kernel_rfl
@[go_sem ↓] theorem fa71_15 (b o : Nat) (w : World) : (Instr.fieldAt 71 (.pointer (some ⟨b, o, none⟩)) 15).run Tryf.prog w = .ok (.pointer (some ⟨b, o + 25, none⟩)) w := by kernel_rfl
@[go_sem ↓] theorem fa71_16 (b o : Nat) (w : World) : (Instr.fieldAt 71 (.pointer (some ⟨b, o, none⟩)) 16).run Tryf.prog w = .ok (.pointer (some ⟨b, o + 26, none⟩)) w := by kernel_rfl
@[go_sem ↓] theorem fa71_17 (b o : Nat) (w : World) : (Instr.fieldAt 71 (.pointer (some ⟨b, o, none⟩)) 17).run Tryf.prog w = .ok (.pointer (some ⟨b, o + 27, none⟩)) w := by kernel_rfl
@[go_sem ↓] theorem fa71_18 (b o : Nat) (w : World) : (Instr.fieldAt 71 (.pointer (some ⟨b, o, none⟩)) 18).run Tryf.prog w = .ok (.pointer (some ⟨b, o + 28, none⟩)) w := by kernel_rfl
@[go_sem ↓] theorem fa71_19 (b o : Nat) (w : World) : (Instr.fieldAt 71 (.pointer (some ⟨b, o, none⟩)) 19).run Tryf.prog w = .ok (.pointer (some ⟨b, o + 29, none⟩)) w := by kernel_rfl
@[go_sem ↓] theorem fa71_20 (b o : Nat) (w : World) : (Instr.fieldAt 71 (.pointer (some ⟨b, o, none⟩)) 20).run Tryf.prog w = .ok (.pointer (some ⟨b, o + 30, none⟩)) w := by kernel_rfl
@[go_sem ↓] theorem fa71_21 (b o : Nat) (w : World) : (Instr.fieldAt 71 (.pointer (some ⟨b, o, none⟩)) 21).run Tryf.prog w = .ok (.pointer (some ⟨b, o + 31, none⟩)) w := by kernel_rfl
@[go_sem ↓] theorem fa71_22 (b o : Nat) (w : World) : (Instr.fieldAt 71 (.pointer (some ⟨b, o, none⟩)) 22).run Tryf.prog w = .ok (.pointer (some ⟨b, o + 32, none⟩)) w := by kernel_rfl
noncomputable def PZ73 : Array Value := match (Tryf.prog.info? 73).bind (·.zero) with | some (.agg c) => c | _ => #[]
@[go_sem ↓] theorem zv73 (w : World) : (zeroValue 73).run Tryf.prog w = .ok (.agg PZ73) w := by kernel_rfl
@[simp, go_sem] theorem PZ73_size : PZ73.size = 51 := by kernel_rfl
@[simp, go_sem] theorem PZ73_0 : PZ73[0]? = some (.slice none 0 0) := by kernel_rfl
@[simp, go_sem] theorem PZ73_1 : PZ73[1]? = some (.nilIface) := by kernel_rfl
@[simp, go_sem] theorem PZ73_2 : PZ73[2]? = some (.slice none 0 0) := by kernel_rfl
@[simp, go_sem] theorem PZ73_3 : PZ73[3]? = some (.int .u32 0) := by kernel_rfl
@[simp, go_sem] theorem PZ73_4 : PZ73[4]? = some (.nilIface) := by kernel_rfl
@[simp, go_sem] theorem PZ73_5 : PZ73[5]? = some (.slice none 0 0) := by kernel_rfl
@[simp, go_sem] theorem PZ73_6 : PZ73[6]? = some (.int .u32 0) := by kernel_rfl
@[simp, go_sem] theorem PZ73_7 : PZ73[7]? = some (.bool false) := by kernel_rfl
@[simp, go_sem] theorem PZ73_8 : PZ73[8]? = some (.bool false) := by kernel_rfl
@[simp, go_sem] theorem PZ73_9 : PZ73[9]? = some (.bool false) := by kernel_rfl
@[simp, go_sem] theorem PZ73_10 : PZ73[10]? = some (.string ⟨#[]⟩) := by kernel_rfl
@[simp, go_sem] theorem PZ73_11 : PZ73[11]? = some (.bool false) := by kernel_rfl
@[simp, go_sem] theorem PZ73_12 : PZ73[12]? = some (.bool false) := by kernel_rfl
@[simp, go_sem] theorem PZ73_13 : PZ73[13]? = some (.pointer none) := by kernel_rfl
@[simp, go_sem] theorem PZ73_14 : PZ73[14]? = some (.pointer none) := by kernel_rfl
@[simp, go_sem] theorem PZ73_15 : PZ73[15]? = some (.pointer none) := by kernel_rfl
@[simp, go_sem] theorem PZ73_16 : PZ73[16]? = some (.slice none 0 0) := by kernel_rfl
@[simp, go_sem] theorem PZ73_17 : PZ73[17]? = some (.pointer none) := by kernel_rfl
@[simp, go_sem] theorem PZ73_18 : PZ73[18]? = some (.string ⟨#[]⟩) := by kernel_rfl
@[simp, go_sem] theorem PZ73_19 : PZ73[19]? = some (.pointer none) := by kernel_rfl
@[simp, go_sem] theorem PZ73_20 : PZ73[20]? = some (.int .i32 0) := by kernel_rfl
@[simp, go_sem] theorem PZ73_21 : PZ73[21]? = some (.int .i32 0) := by kernel_rfl
@[simp, go_sem] theorem PZ73_22 : PZ73[22]? = some (.int .u8 0) := by kernel_rfl
@[simp, go_sem] theorem PZ73_23 : PZ73[23]? = some (.int .u64 0) := by kernel_rfl
@[simp, go_sem] theorem PZ73_24 : PZ73[24]? = some (.int .u64 0) := by kernel_rfl
@[simp, go_sem] theorem PZ73_25 : PZ73[25]? = some (.int .u64 0) := by kernel_rfl
@[simp, go_sem] theorem PZ73_26 : PZ73[26]? = some (.int .u8 0) := by kernel_rfl
@[simp, go_sem] theorem PZ73_27 : PZ73[27]? = some (.int .u8 0) := by kernel_rfl
@[simp, go_sem] theorem PZ73_28 : PZ73[28]? = some (.int .u8 0) := by kernel_rfl
@[simp, go_sem] theorem PZ73_29 : PZ73[29]? = some (.int .u8 0) := by kernel_rfl
@[simp, go_sem] theorem PZ73_30 : PZ73[30]? = some (.int .u8 0) := by kernel_rfl
@[simp, go_sem] theorem PZ73_31 : PZ73[31]? = some (.int .u8 0) := by kernel_rfl
@[simp, go_sem] theorem PZ73_32 : PZ73[32]? = some (.bool false) := by kernel_rfl
@[simp, go_sem] theorem PZ73_33 : PZ73[33]? = some (.bool false) := by kernel_rfl
@[simp, go_sem] theorem PZ73_34 : PZ73[34]? = some (.int .u8 0) := by kernel_rfl
@[simp, go_sem] theorem PZ73_35 : PZ73[35]? = some (.int .u8 0) := by kernel_rfl
@[simp, go_sem] theorem PZ73_36 : PZ73[36]? = some (.int .u8 0) := by kernel_rfl
@[simp, go_sem] theorem PZ73_37 : PZ73[37]? = some (.int .u8 0) := by kernel_rfl
@[simp, go_sem] theorem PZ73_38 : PZ73[38]? = some (.int .u8 0) := by kernel_rfl
@[simp, go_sem] theorem PZ73_39 : PZ73[39]? = some (.bool false) := by kernel_rfl
@[simp, go_sem] theorem PZ73_40 : PZ73[40]? = some (.bool false) := by kernel_rfl
@[simp, go_sem] theorem PZ73_41 : PZ73[41]? = some (.bool false) := by kernel_rfl
@[simp, go_sem] theorem PZ73_42 : PZ73[42]? = some (.bool false) := by kernel_rfl
@[simp, go_sem] theorem PZ73_43 : PZ73[43]? = some (.bool false) := by kernel_rfl
@[simp, go_sem] theorem PZ73_44 : PZ73[44]? = some (.bool false) := by kernel_rfl
@[simp, go_sem] theorem PZ73_45 : PZ73[45]? = some (.bool false) := by kernel_rfl
@[simp, go_sem] theorem PZ73_46 : PZ73[46]? = some (.bool false) := by kernel_rfl
@[simp, go_sem] theorem PZ73_47 : PZ73[47]? = some (.bool false) := by kernel_rfl
@[simp, go_sem] theorem PZ73_48 : PZ73[48]? = some (.bool false) := by kernel_rfl
@[simp, go_sem] theorem PZ73_49 : PZ73[49]? = some (.bool false) := by kernel_rfl
@[simp, go_sem] theorem PZ73_50 : PZ73[50]? = some (.bool false) := by kernel_rfl
@[go_sem ↓] theorem fa73_0 (b o : Nat) (w : World) : (Instr.fieldAt 73 (.pointer (some ⟨b, o, none⟩)) 0).run Tryf.prog w = .ok (.pointer (some ⟨b, o, none⟩)) w := by kernel_rfl
@[go_sem ↓] theorem fa73_1 (b o : Nat) (w : World) : (Instr.fieldAt 73 (.pointer (some ⟨b, o, none⟩)) 1).run Tryf.prog w = .ok (.pointer (some ⟨b, o + 1, none⟩)) w := by kernel_rfl
@[go_sem ↓] theorem fa73_2 (b o : Nat) (w : World) : (Instr.fieldAt 73 (.pointer (some ⟨b, o, none⟩)) 2).run Tryf.prog w = .ok (.pointer (some ⟨b, o + 13, none⟩)) w := by kernel_rfl
@[go_sem ↓] theorem fa73_3 (b o : Nat) (w : World) : (Instr.fieldAt 73 (.pointer (some ⟨b, o, none⟩)) 3).run Tryf.prog w = .ok (.pointer (some ⟨b, o + 14, none⟩)) w := by kernel_rfl
@[go_sem ↓] theorem fa73_4 (b o : Nat) (w : World) : (Instr.fieldAt 73 (.pointer (some ⟨b, o, none⟩)) 4).run Tryf.prog w = .ok (.pointer (some ⟨b, o + 15, none⟩)) w := by kernel_rfl
@[go_sem ↓] theorem fa73_5 (b o : Nat) (w : World) : (Instr.fieldAt 73 (.pointer (some ⟨b, o, none⟩)) 5).run Tryf.prog w = .ok (.pointer (some ⟨b, o + 16, none⟩)) w := by kernel_rfl
@[go_sem ↓] theorem fa73_6 (b o : Nat) (w : World) : (Instr.fieldAt 73 (.pointer (some ⟨b, o, none⟩)) 6).run Tryf.prog w = .ok (.pointer (some ⟨b, o + 17, none⟩)) w := by kernel_rfl
@[go_sem ↓] theorem fa73_7 (b o : Nat) (w : World) : (Instr.fieldAt 73 (.pointer (some ⟨b, o, none⟩)) 7).run Tryf.prog w = .ok (.pointer (some ⟨b, o + 18, none⟩)) w := by kernel_rfl
noncomputable def PZ163 : Array Value := match (Tryf.prog.info? 163).bind (·.zero) with | some (.agg c) => c | _ => #[]
@[go_sem ↓] theorem zv163 (w : World) : (zeroValue 163).run Tryf.prog w = .ok (.agg PZ163) w := by kernel_rfl
@[simp, go_sem] theorem PZ163_size : PZ163.size = 353 := by kernel_rfl
@[simp, go_sem] theorem PZ163_0 : PZ163[0]? = some (.slice none 0 0) := by kernel_rfl
@[simp, go_sem] theorem PZ163_1 : PZ163[1]? = some (.nilIface) := by kernel_rfl
@[simp, go_sem] theorem PZ163_2 : PZ163[2]? = some (.slice none 0 0) := by kernel_rfl
@[simp, go_sem] theorem PZ163_3 : PZ163[3]? = some (.int .u32 0) := by kernel_rfl
@[simp, go_sem] theorem PZ163_4 : PZ163[4]? = some (.nilIface) := by kernel_rfl
@[simp, go_sem] theorem PZ163_5 : PZ163[5]? = some (.slice none 0 0) := by kernel_rfl
@[simp, go_sem] theorem PZ163_6 : PZ163[6]? = some (.int .u32 0) := by kernel_rfl
@[simp, go_sem] theorem PZ163_7 : PZ163[7]? = some (.bool false) := by kernel_rfl
@[simp, go_sem] theorem PZ163_8 : PZ163[8]? = some (.bool false) := by kernel_rfl
@[simp, go_sem] theorem PZ163_9 : PZ163[9]? = some (.bool false) := by kernel_rfl
@[simp, go_sem] theorem PZ163_10 : PZ163[10]? = some (.string ⟨#[]⟩) := by kernel_rfl
@[simp, go_sem] theorem PZ163_11 : PZ163[11]? = some (.bool false) := by kernel_rfl
@[simp, go_sem] theorem PZ163_12 : PZ163[12]? = some (.bool false) := by kernel_rfl
@[simp, go_sem] theorem PZ163_13 : PZ163[13]? = some (.pointer none) := by kernel_rfl
@[simp, go_sem] theorem PZ163_14 : PZ163[14]? = some (.pointer none) := by kernel_rfl
@[simp, go_sem] theorem PZ163_15 : PZ163[15]? = some (.pointer none) := by kernel_rfl
@[simp, go_sem] theorem PZ163_16 : PZ163[16]? = some (.slice none 0 0) := by kernel_rfl
@[simp, go_sem] theorem PZ163_17 : PZ163[17]? = some (.pointer none) := by kernel_rfl
@[simp, go_sem] theorem PZ163_18 : PZ163[18]? = some (.string ⟨#[]⟩) := by kernel_rfl
@[simp, go_sem] theorem PZ163_19 : PZ163[19]? = some (.pointer none) := by kernel_rfl
@[simp, go_sem] theorem PZ163_20 : PZ163[20]? = some (.int .i32 0) := by kernel_rfl
@[simp, go_sem] theorem PZ163_21 : PZ163[21]? = some (.int .i32 0) := by kernel_rfl
@[simp, go_sem] theorem PZ163_22 : PZ163[22]? = some (.int .u8 0) := by kernel_rfl
@[simp, go_sem] theorem PZ163_23 : PZ163[23]? = some (.int .u64 0) := by kernel_rfl
@[simp, go_sem] theorem PZ163_24 : PZ163[24]? = some (.int .u64 0) := by kernel_rfl
@[simp, go_sem] theorem PZ163_25 : PZ163[25]? = some (.int .u64 0) := by kernel_rfl
@[simp, go_sem] theorem PZ163_26 : PZ163[26]? = some (.int .u8 0) := by kernel_rfl
@[simp, go_sem] theorem PZ163_27 : PZ163[27]? = some (.int .u8 0) := by kernel_rfl
@[simp, go_sem] theorem PZ163_28 : PZ163[28]? = some (.int .u8 0) := by kernel_rfl
@[simp, go_sem] theorem PZ163_29 : PZ163[29]? = some (.int .u8 0) := by kernel_rfl
@[simp, go_sem] theorem PZ163_30 : PZ163[30]? = some (.int .u8 0) := by kernel_rfl
@[simp, go_sem] theorem PZ163_31 : PZ163[31]? = some (.int .u8 0) := by kernel_rfl
@[simp, go_sem] theorem PZ163_32 : PZ163[32]? = some (.bool false) := by kernel_rfl
@[simp, go_sem] theorem PZ163_33 : PZ163[33]? = some (.bool false) := by kernel_rfl
@[simp, go_sem] theorem PZ163_34 : PZ163[34]? = some (.int .u8 0) := by kernel_rfl
@[simp, go_sem] theorem PZ163_35 : PZ163[35]? = some (.int .u8 0) := by kernel_rfl
@[simp, go_sem] theorem PZ163_36 : PZ163[36]? = some (.int .u8 0) := by kernel_rfl
@[simp, go_sem] theorem PZ163_37 : PZ163[37]? = some (.int .u8 0) := by kernel_rfl
@[simp, go_sem] theorem PZ163_38 : PZ163[38]? = some (.int .u8 0) := by kernel_rfl
@[simp, go_sem] theorem PZ163_39 : PZ163[39]? = some (.bool false) := by kernel_rfl
@[simp, go_sem] theorem PZ163_40 : PZ163[40]? = some (.bool false) := by kernel_rfl
@[simp, go_sem] theorem PZ163_41 : PZ163[41]? = some (.bool false) := by kernel_rfl
@[simp, go_sem] theorem PZ163_42 : PZ163[42]? = some (.bool false) := by kernel_rfl
@[simp, go_sem] theorem PZ163_43 : PZ163[43]? = some (.bool false) := by kernel_rfl
@[simp, go_sem] theorem PZ163_44 : PZ163[44]? = some (.bool false) := by kernel_rfl
@[simp, go_sem] theorem PZ163_45 : PZ163[45]? = some (.bool false) := by kernel_rfl
@[simp, go_sem] theorem PZ163_46 : PZ163[46]? = some (.bool false) := by kernel_rfl
@[simp, go_sem] theorem PZ163_47 : PZ163[47]? = some (.bool false) := by kernel_rfl
@[simp, go_sem] theorem PZ163_48 : PZ163[48]? = some (.bool false) := by kernel_rfl
@[simp, go_sem] theorem PZ163_49 : PZ163[49]? = some (.bool false) := by kernel_rfl
@[simp, go_sem] theorem PZ163_50 : PZ163[50]? = some (.bool false) := by kernel_rfl
@[simp, go_sem] theorem PZ163_51 : PZ163[51]? = some (.nilFunc) := by kernel_rfl
@[simp, go_sem] theorem PZ163_52 : PZ163[52]? = some (.nilFunc) := by kernel_rfl
@[simp, go_sem] theorem PZ163_53 : PZ163[53]? = some (.nilFunc) := by kernel_rfl
@[simp, go_sem] theorem PZ163_54 : PZ163[54]? = some (.nilFunc) := by kernel_rfl
@[simp, go_sem] theorem PZ163_55 : PZ163[55]? = some (.int .i8 0) := by kernel_rfl
@[simp, go_sem] theorem PZ163_56 : PZ163[56]? = some (.map none) := by kernel_rfl
@[simp, go_sem] theorem PZ163_57 : PZ163[57]? = some (.string ⟨#[]⟩) := by kernel_rfl
@[simp, go_sem] theorem PZ163_58 : PZ163[58]? = some (.string ⟨#[]⟩) := by kernel_rfl
@[simp, go_sem] theorem PZ163_59 : PZ163[59]? = some (.string ⟨#[]⟩) := by kernel_rfl
@[simp, go_sem] theorem PZ163_60 : PZ163[60]? = some (.string ⟨#[]⟩) := by kernel_rfl
@[simp, go_sem] theorem PZ163_61 : PZ163[61]? = some (.string ⟨#[]⟩) := by kernel_rfl
@[simp, go_sem] theorem PZ163_62 : PZ163[62]? = some (.string ⟨#[]⟩) := by kernel_rfl
@[simp, go_sem] theorem PZ163_63 : PZ163[63]? = some (.string ⟨#[]⟩) := by kernel_rfl
@[simp, go_sem] theorem PZ163_64 : PZ163[64]? = some (.string ⟨#[]⟩) := by kernel_rfl
@[simp, go_sem] theorem PZ163_65 : PZ163[65]? = some (.int .u8 0) := by kernel_rfl
@[simp, go_sem] theorem PZ163_66 : PZ163[66]? = some (.int .u32 0) := by kernel_rfl
@[simp, go_sem] theorem PZ163_67 : PZ163[67]? = some (.string ⟨#[]⟩) := by kernel_rfl
@[simp, go_sem] theorem PZ163_68 : PZ163[68]? = some (.string ⟨#[]⟩) := by kernel_rfl
@[simp, go_sem] theorem PZ163_69 : PZ163[69]? = some (.string ⟨#[]⟩) := by kernel_rfl
@[simp, go_sem] theorem PZ163_70 : PZ163[70]? = some (.int .i32 0) := by kernel_rfl
@[simp, go_sem] theorem PZ163_71 : PZ163[71]? = some (.int .i32 0) := by kernel_rfl
@[simp, go_sem] theorem PZ163_72 : PZ163[72]? = some (.int .i32 0) := by kernel_rfl
@[simp, go_sem] theorem PZ163_73 : PZ163[73]? = some (.int .i32 0) := by kernel_rfl
@[simp, go_sem] theorem PZ163_74 : PZ163[74]? = some (.bool false) := by kernel_rfl
@[simp, go_sem] theorem PZ163_75 : PZ163[75]? = some (.bool false) := by kernel_rfl
@[simp, go_sem] theorem PZ163_76 : PZ163[76]? = some (.bool false) := by kernel_rfl
@[simp, go_sem] theorem PZ163_77 : PZ163[77]? = some (.pointer none) := by kernel_rfl
@[simp, go_sem] theorem PZ163_78 : PZ163[78]? = some (.pointer none) := by kernel_rfl
@[simp, go_sem] theorem PZ163_79 : PZ163[79]? = some (.int .i32 0) := by kernel_rfl
@[simp, go_sem] theorem PZ163_80 : PZ163[80]? = some (.int .i32 0) := by kernel_rfl
@[simp, go_sem] theorem PZ163_81 : PZ163[81]? = some (.int .i32 0) := by kernel_rfl
@[simp, go_sem] theorem PZ163_82 : PZ163[82]? = some (.int .u8 0) := by kernel_rfl
@[simp, go_sem] theorem PZ163_83 : PZ163[83]? = some (.int .u8 0) := by kernel_rfl
@[simp, go_sem] theorem PZ163_84 : PZ163[84]? = some (.bool false) := by kernel_rfl
@[simp, go_sem] theorem PZ163_85 : PZ163[85]? = some (.bool false) := by kernel_rfl
@[simp, go_sem] theorem PZ163_86 : PZ163[86]? = some (.bool false) := by kernel_rfl
@[simp, go_sem] theorem PZ163_87 : PZ163[87]? = some (.bool false) := by kernel_rfl
@[simp, go_sem] theorem PZ163_88 : PZ163[88]? = some (.bool false) := by kernel_rfl
@[simp, go_sem] theorem PZ163_89 : PZ163[89]? = some (.bool false) := by kernel_rfl
@[simp, go_sem] theorem PZ163_90 : PZ163[90]? = some (.bool false) := by kernel_rfl
@[simp, go_sem] theorem PZ163_91 : PZ163[91]? = some (.bool false) := by kernel_rfl
@[simp, go_sem] theorem PZ163_92 : PZ163[92]? = some (.pointer none) := by kernel_rfl
@[simp, go_sem] theorem PZ163_93 : PZ163[93]? = some (.pointer none) := by kernel_rfl
@[simp, go_sem] theorem PZ163_94 : PZ163[94]? = some (.pointer none) := by kernel_rfl
@[simp, go_sem] theorem PZ163_95 : PZ163[95]? = some (.bool false) := by kernel_rfl
@[simp, go_sem] theorem PZ163_96 : PZ163[96]? = some (.bool false) := by kernel_rfl
@[simp, go_sem] theorem PZ163_97 : PZ163[97]? = some (.pointer none) := by kernel_rfl
@[simp, go_sem] theorem PZ163_98 : PZ163[98]? = some (.bool false) := by kernel_rfl
@[simp, go_sem] theorem PZ163_99 : PZ163[99]? = some (.bool false) := by kernel_rfl
@[simp, go_sem] theorem PZ163_100 : PZ163[100]? = some (.bool false) := by kernel_rfl
@[simp, go_sem] theorem PZ163_101 : PZ163[101]? = some (.bool false) := by kernel_rfl
@[simp, go_sem] theorem PZ163_102 : PZ163[102]? = some (.bool false) := by kernel_rfl
@[simp, go_sem] theorem PZ163_103 : PZ163[103]? = some (.slice none 0 0) := by kernel_rfl
@[simp, go_sem] theorem PZ163_104 : PZ163[104]? = some (.pointer none) := by kernel_rfl
@[simp, go_sem] theorem PZ163_105 : PZ163[105]? = some (.pointer none) := by kernel_rfl
@[simp, go_sem] theorem PZ163_106 : PZ163[106]? = some (.slice none 0 0) := by kernel_rfl
@[simp, go_sem] theorem PZ163_107 : PZ163[107]? = some (.nilFunc) := by kernel_rfl
@[simp, go_sem] theorem PZ163_108 : PZ163[108]? = some (.slice none 0 0) := by kernel_rfl
@[simp, go_sem] theorem PZ163_109 : PZ163[109]? = some (.slice none 0 0) := by kernel_rfl
@[simp, go_sem] theorem PZ163_110 : PZ163[110]? = some (.map none) := by kernel_rfl
@[simp, go_sem] theorem PZ163_111 : PZ163[111]? = some (.map none) := by kernel_rfl
@[simp, go_sem] theorem PZ163_112 : PZ163[112]? = some (.map none) := by kernel_rfl
@[simp, go_sem] theorem PZ163_113 : PZ163[113]? = some (.map none) := by kernel_rfl
@[simp, go_sem] theorem PZ163_114 : PZ163[114]? = some (.map none) := by kernel_rfl
@[simp, go_sem] theorem PZ163_115 : PZ163[115]? = some (.map none) := by kernel_rfl
@[simp, go_sem] theorem PZ163_116 : PZ163[116]? = some (.slice none 0 0) := by kernel_rfl
@[simp, go_sem] theorem PZ163_117 : PZ163[117]? = some (.map none) := by kernel_rfl
@[simp, go_sem] theorem PZ163_118 : PZ163[118]? = some (.slice none 0 0) := by kernel_rfl
@[simp, go_sem] theorem PZ163_119 : PZ163[119]? = some (.int .u8 0) := by kernel_rfl
@[simp, go_sem] theorem PZ163_120 : PZ163[120]? = some (.int .u8 0) := by kernel_rfl
@[simp, go_sem] theorem PZ163_121 : PZ163[121]? = some (.int .u8 0) := by kernel_rfl
@[simp, go_sem] theorem PZ163_122 : PZ163[122]? = some (.int .u8 0) := by kernel_rfl
@[simp, go_sem] theorem PZ163_123 : PZ163[123]? = some (.int .u8 0) := by kernel_rfl
@[simp, go_sem] theorem PZ163_124 : PZ163[124]? = some (.int .u8 0) := by kernel_rfl
@[simp, go_sem] theorem PZ163_125 : PZ163[125]? = some (.int .u8 0) := by kernel_rfl
@[simp, go_sem] theorem PZ163_126 : PZ163[126]? = some (.int .u8 0) := by kernel_rfl
@[simp, go_sem] theorem PZ163_127 : PZ163[127]? = some (.int .u8 0) := by kernel_rfl
@[simp, go_sem] theorem PZ163_128 : PZ163[128]? = some (.int .u8 0) := by kernel_rfl
@[simp, go_sem] theorem PZ163_129 : PZ163[129]? = some (.int .u8 0) := by kernel_rfl
@[simp, go_sem] theorem PZ163_130 : PZ163[130]? = some (.int .u8 0) := by kernel_rfl
@[simp, go_sem] theorem PZ163_131 : PZ163[131]? = some (.int .u8 0) := by kernel_rfl
@[simp, go_sem] theorem PZ163_132 : PZ163[132]? = some (.int .u8 0) := by kernel_rfl
@[simp, go_sem] theorem PZ163_133 : PZ163[133]? = some (.int .u8 0) := by kernel_rfl
@[simp, go_sem] theorem PZ163_134 : PZ163[134]? = some (.int .u8 0) := by kernel_rfl
@[simp, go_sem] theorem PZ163_135 : PZ163[135]? = some (.int .u8 0) := by kernel_rfl
@[simp, go_sem] theorem PZ163_136 : PZ163[136]? = some (.int .u8 0) := by kernel_rfl
@[simp, go_sem] theorem PZ163_137 : PZ163[137]? = some (.int .u8 0) := by kernel_rfl
@[simp, go_sem] theorem PZ163_138 : PZ163[138]? = some (.int .u8 0) := by kernel_rfl
@[simp, go_sem] theorem PZ163_139 : PZ163[139]? = some (.int .u8 0) := by kernel_rfl
@[simp, go_sem] theorem PZ163_140 : PZ163[140]? = some (.int .u8 0) := by kernel_rfl
@[simp, go_sem] theorem PZ163_141 : PZ163[141]? = some (.int .u8 0) := by kernel_rfl
@[simp, go_sem] theorem PZ163_142 : PZ163[142]? = some (.int .u8 0) := by kernel_rfl
@[simp, go_sem] theorem PZ163_143 : PZ163[143]? = some (.int .u8 0) := by kernel_rfl
@[simp, go_sem] theorem PZ163_144 : PZ163[144]? = some (.int .u8 0) := by kernel_rfl
@[simp, go_sem] theorem PZ163_145 : PZ163[145]? = some (.int .u8 0) := by kernel_rfl
@[simp, go_sem] theorem PZ163_146 : PZ163[146]? = some (.int .u8 0) := by kernel_rfl
@[simp, go_sem] theorem PZ163_147 : PZ163[147]? = some (.int .u8 0) := by kernel_rfl
@[simp, go_sem] theorem PZ163_148 : PZ163[148]? = some (.int .u8 0) := by kernel_rfl
@[simp, go_sem] theorem PZ163_149 : PZ163[149]? = some (.int .u8 0) := by kernel_rfl
@[simp, go_sem] theorem PZ163_150 : PZ163[150]? = some (.int .u8 0) := by kernel_rfl
@[simp, go_sem] theorem PZ163_151 : PZ163[151]? = some (.map none) := by kernel_rfl
@[simp, go_sem] theorem PZ163_152 : PZ163[152]? = some (.map none) := by kernel_rfl
@[simp, go_sem] theorem PZ163_153 : PZ163[153]? = some (.map none) := by kernel_rfl
@[simp, go_sem] theorem PZ163_154 : PZ163[154]? = some (.slice none 0 0) := by kernel_rfl
@[simp, go_sem] theorem PZ163_155 : PZ163[155]? = some (.map none) := by kernel_rfl
@[simp, go_sem] theorem PZ163_156 : PZ163[156]? = some (.map none) := by kernel_rfl
@[simp, go_sem] theorem PZ163_157 : PZ163[157]? = some (.map none) := by kernel_rfl
@[simp, go_sem] theorem PZ163_158 : PZ163[158]? = some (.map none) := by kernel_rfl
@[simp, go_sem] theorem PZ163_159 : PZ163[159]? = some (.nilIface) := by kernel_rfl
@[simp, go_sem] theorem PZ163_160 : PZ163[160]? = some (.nilIface) := by kernel_rfl
@[simp, go_sem] theorem PZ163_161 : PZ163[161]? = some (.map none) := by kernel_rfl
@[simp, go_sem] theorem PZ163_162 : PZ163[162]? = some (.map none) := by kernel_rfl
@[simp, go_sem] theorem PZ163_163 : PZ163[163]? = some (.map none) := by kernel_rfl
@[simp, go_sem] theorem PZ163_164 : PZ163[164]? = some (.map none) := by kernel_rfl
@[simp, go_sem] theorem PZ163_165 : PZ163[165]? = some (.map none) := by kernel_rfl
@[simp, go_sem] theorem PZ163_166 : PZ163[166]? = some (.nilIface) := by kernel_rfl
@[simp, go_sem] theorem PZ163_167 : PZ163[167]? = some (.pointer none) := by kernel_rfl
@[simp, go_sem] theorem PZ163_168 : PZ163[168]? = some (.pointer none) := by kernel_rfl
@[simp, go_sem] theorem PZ163_169 : PZ163[169]? = some (.slice none 0 0) := by kernel_rfl
@[simp, go_sem] theorem PZ163_170 : PZ163[170]? = some (.slice none 0 0) := by kernel_rfl
@[simp, go_sem] theorem PZ163_171 : PZ163[171]? = some (.map none) := by kernel_rfl
@[simp, go_sem] theorem PZ163_172 : PZ163[172]? = some (.map none) := by kernel_rfl
@[simp, go_sem] theorem PZ163_173 : PZ163[173]? = some (.map none) := by kernel_rfl
@[simp, go_sem] theorem PZ163_174 : PZ163[174]? = some (.map none) := by kernel_rfl
@[simp, go_sem] theorem PZ163_175 : PZ163[175]? = some (.map none) := by kernel_rfl
@[simp, go_sem] theorem PZ163_176 : PZ163[176]? = some (.map none) := by kernel_rfl
@[simp, go_sem] theorem PZ163_177 : PZ163[177]? = some (.slice none 0 0) := by kernel_rfl
@[simp, go_sem] theorem PZ163_178 : PZ163[178]? = some (.string ⟨#[]⟩) := by kernel_rfl
@[simp, go_sem] theorem PZ163_179 : PZ163[179]? = some (.nilIface) := by kernel_rfl
@[simp, go_sem] theorem PZ163_180 : PZ163[180]? = some (.nilIface) := by kernel_rfl
@[simp, go_sem] theorem PZ163_181 : PZ163[181]? = some (.nilIface) := by kernel_rfl
@[simp, go_sem] theorem PZ163_182 : PZ163[182]? = some (.nilIface) := by kernel_rfl
@[simp, go_sem] theorem PZ163_183 : PZ163[183]? = some (.nilIface) := by kernel_rfl
@[simp, go_sem] theorem PZ163_184 : PZ163[184]? = some (.nilIface) := by kernel_rfl
@[simp, go_sem] theorem PZ163_185 : PZ163[185]? = some (.nilIface) := by kernel_rfl
@[simp, go_sem] theorem PZ163_186 : PZ163[186]? = some (.nilIface) := by kernel_rfl
@[simp, go_sem] theorem PZ163_187 : PZ163[187]? = some (.pointer none) := by kernel_rfl
@[simp, go_sem] theorem PZ163_188 : PZ163[188]? = some (.nilIface) := by kernel_rfl
@[simp, go_sem] theorem PZ163_189 : PZ163[189]? = some (.int .i32 0) := by kernel_rfl
@[simp, go_sem] theorem PZ163_190 : PZ163[190]? = some (.map none) := by kernel_rfl
@[simp, go_sem] theorem PZ163_191 : PZ163[191]? = some (.nilIface) := by kernel_rfl
@[simp, go_sem] theorem PZ163_192 : PZ163[192]? = some (.nilIface) := by kernel_rfl
@[simp, go_sem] theorem PZ163_193 : PZ163[193]? = some (.int .i32 0) := by kernel_rfl
@[simp, go_sem] theorem PZ163_194 : PZ163[194]? = some (.bool false) := by kernel_rfl
@[simp, go_sem] theorem PZ163_195 : PZ163[195]? = some (.bool false) := by kernel_rfl
@[simp, go_sem] theorem PZ163_196 : PZ163[196]? = some (.slice none 0 0) := by kernel_rfl
@[simp, go_sem] theorem PZ163_197 : PZ163[197]? = some (.map none) := by kernel_rfl
@[simp, go_sem] theorem PZ163_198 : PZ163[198]? = some (.slice none 0 0) := by kernel_rfl
@[simp, go_sem] theorem PZ163_199 : PZ163[199]? = some (.slice none 0 0) := by kernel_rfl
@[simp, go_sem] theorem PZ163_200 : PZ163[200]? = some (.slice none 0 0) := by kernel_rfl
@[simp, go_sem] theorem PZ163_201 : PZ163[201]? = some (.slice none 0 0) := by kernel_rfl
@[simp, go_sem] theorem PZ163_202 : PZ163[202]? = some (.slice none 0 0) := by kernel_rfl
@[simp, go_sem] theorem PZ163_203 : PZ163[203]? = some (.slice none 0 0) := by kernel_rfl
@[simp, go_sem] theorem PZ163_204 : PZ163[204]? = some (.string ⟨#[]⟩) := by kernel_rfl
@[simp, go_sem] theorem PZ163_205 : PZ163[205]? = some (.int .u32 0) := by kernel_rfl
@[simp, go_sem] theorem PZ163_206 : PZ163[206]? = some (.nilFunc) := by kernel_rfl
@[simp, go_sem] theorem PZ163_207 : PZ163[207]? = some (.nilFunc) := by kernel_rfl
@[simp, go_sem] theorem PZ163_208 : PZ163[208]? = some (.nilFunc) := by kernel_rfl
@[simp, go_sem] theorem PZ163_209 : PZ163[209]? = some (.nilFunc) := by kernel_rfl
@[simp, go_sem] theorem PZ163_210 : PZ163[210]? = some (.int .i8 0) := by kernel_rfl
@[simp, go_sem] theorem PZ163_211 : PZ163[211]? = some (.map none) := by kernel_rfl
@[simp, go_sem] theorem PZ163_212 : PZ163[212]? = some (.string ⟨#[]⟩) := by kernel_rfl
@[simp, go_sem] theorem PZ163_213 : PZ163[213]? = some (.string ⟨#[]⟩) := by kernel_rfl
@[simp, go_sem] theorem PZ163_214 : PZ163[214]? = some (.string ⟨#[]⟩) := by kernel_rfl
@[simp, go_sem] theorem PZ163_215 : PZ163[215]? = some (.string ⟨#[]⟩) := by kernel_rfl
@[simp, go_sem] theorem PZ163_216 : PZ163[216]? = some (.string ⟨#[]⟩) := by kernel_rfl
@[simp, go_sem] theorem PZ163_217 : PZ163[217]? = some (.string ⟨#[]⟩) := by kernel_rfl
@[simp, go_sem] theorem PZ163_218 : PZ163[218]? = some (.string ⟨#[]⟩) := by kernel_rfl
@[simp, go_sem] theorem PZ163_219 : PZ163[219]? = some (.string ⟨#[]⟩) := by kernel_rfl
@[simp, go_sem] theorem PZ163_220 : PZ163[220]? = some (.int .u8 0) := by kernel_rfl
@[simp, go_sem] theorem PZ163_221 : PZ163[221]? = some (.int .u32 0) := by kernel_rfl
@[simp, go_sem] theorem PZ163_222 : PZ163[222]? = some (.string ⟨#[]⟩) := by kernel_rfl
@[simp, go_sem] theorem PZ163_223 : PZ163[223]? = some (.int .i32 0) := by kernel_rfl
@[simp, go_sem] theorem PZ163_224 : PZ163[224]? = some (.int .i32 0) := by kernel_rfl
@[simp, go_sem] theorem PZ163_225 : PZ163[225]? = some (.string ⟨#[]⟩) := by kernel_rfl
@[simp, go_sem] theorem PZ163_226 : PZ163[226]? = some (.int .i32 0) := by kernel_rfl
@[simp, go_sem] theorem PZ163_227 : PZ163[227]? = some (.int .i32 0) := by kernel_rfl
@[simp, go_sem] theorem PZ163_228 : PZ163[228]? = some (.string ⟨#[]⟩) := by kernel_rfl
@[simp, go_sem] theorem PZ163_229 : PZ163[229]? = some (.int .i32 0) := by kernel_rfl
@[simp, go_sem] theorem PZ163_230 : PZ163[230]? = some (.int .i32 0) := by kernel_rfl
@[simp, go_sem] theorem PZ163_231 : PZ163[231]? = some (.string ⟨#[]⟩) := by kernel_rfl
@[simp, go_sem] theorem PZ163_232 : PZ163[232]? = some (.int .i32 0) := by kernel_rfl
@[simp, go_sem] theorem PZ163_233 : PZ163[233]? = some (.int .i32 0) := by kernel_rfl
@[simp, go_sem] theorem PZ163_234 : PZ163[234]? = some (.string ⟨#[]⟩) := by kernel_rfl
@[simp, go_sem] theorem PZ163_235 : PZ163[235]? = some (.int .i32 0) := by kernel_rfl
@[simp, go_sem] theorem PZ163_236 : PZ163[236]? = some (.int .i32 0) := by kernel_rfl
@[simp, go_sem] theorem PZ163_237 : PZ163[237]? = some (.string ⟨#[]⟩) := by kernel_rfl
@[simp, go_sem] theorem PZ163_238 : PZ163[238]? = some (.slice none 0 0) := by kernel_rfl
@[simp, go_sem] theorem PZ163_239 : PZ163[239]? = some (.string ⟨#[]⟩) := by kernel_rfl
@[simp, go_sem] theorem PZ163_240 : PZ163[240]? = some (.string ⟨#[]⟩) := by kernel_rfl
@[simp, go_sem] theorem PZ163_241 : PZ163[241]? = some (.string ⟨#[]⟩) := by kernel_rfl
@[simp, go_sem] theorem PZ163_242 : PZ163[242]? = some (.string ⟨#[]⟩) := by kernel_rfl
@[simp, go_sem] theorem PZ163_243 : PZ163[243]? = some (.string ⟨#[]⟩) := by kernel_rfl
@[simp, go_sem] theorem PZ163_244 : PZ163[244]? = some (.int .i32 0) := by kernel_rfl
@[simp, go_sem] theorem PZ163_245 : PZ163[245]? = some (.int .i32 0) := by kernel_rfl
@[simp, go_sem] theorem PZ163_246 : PZ163[246]? = some (.int .i32 0) := by kernel_rfl
@[simp, go_sem] theorem PZ163_247 : PZ163[247]? = some (.int .i32 0) := by kernel_rfl
@[simp, go_sem] theorem PZ163_248 : PZ163[248]? = some (.bool false) := by kernel_rfl
@[simp, go_sem] theorem PZ163_249 : PZ163[249]? = some (.bool false) := by kernel_rfl
@[simp, go_sem] theorem PZ163_250 : PZ163[250]? = some (.bool false) := by kernel_rfl
@[simp, go_sem] theorem PZ163_251 : PZ163[251]? = some (.int .i64 0) := by kernel_rfl
@[simp, go_sem] theorem PZ163_252 : PZ163[252]? = some (.float .f64 0) := by kernel_rfl
@[simp, go_sem] theorem PZ163_253 : PZ163[253]? = some (.int .i64 0) := by kernel_rfl
@[simp, go_sem] theorem PZ163_254 : PZ163[254]? = some (.int .i64 0) := by kernel_rfl
@[simp, go_sem] theorem PZ163_255 : PZ163[255]? = some (.int .i64 0) := by kernel_rfl
@[simp, go_sem] theorem PZ163_256 : PZ163[256]? = some (.int .i64 0) := by kernel_rfl
@[simp, go_sem] theorem PZ163_257 : PZ163[257]? = some (.int .i64 0) := by kernel_rfl
@[simp, go_sem] theorem PZ163_258 : PZ163[258]? = some (.int .i32 0) := by kernel_rfl
@[simp, go_sem] theorem PZ163_259 : PZ163[259]? = some (.int .i32 0) := by kernel_rfl
@[simp, go_sem] theorem PZ163_260 : PZ163[260]? = some (.int .i32 0) := by kernel_rfl
@[simp, go_sem] theorem PZ163_261 : PZ163[261]? = some (.int .i32 0) := by kernel_rfl
@[simp, go_sem] theorem PZ163_262 : PZ163[262]? = some (.int .i32 0) := by kernel_rfl
@[simp, go_sem] theorem PZ163_263 : PZ163[263]? = some (.int .i32 0) := by kernel_rfl
@[simp, go_sem] theorem PZ163_264 : PZ163[264]? = some (.int .i32 0) := by kernel_rfl
@[simp, go_sem] theorem PZ163_265 : PZ163[265]? = some (.int .i32 0) := by kernel_rfl
@[simp, go_sem] theorem PZ163_266 : PZ163[266]? = some (.int .i32 0) := by kernel_rfl
@[simp, go_sem] theorem PZ163_267 : PZ163[267]? = some (.int .i32 0) := by kernel_rfl
@[simp, go_sem] theorem PZ163_268 : PZ163[268]? = some (.int .i32 0) := by kernel_rfl
@[simp, go_sem] theorem PZ163_269 : PZ163[269]? = some (.int .u8 0) := by kernel_rfl
@[simp, go_sem] theorem PZ163_270 : PZ163[270]? = some (.int .u8 0) := by kernel_rfl
@[simp, go_sem] theorem PZ163_271 : PZ163[271]? = some (.int .u8 0) := by kernel_rfl
@[simp, go_sem] theorem PZ163_272 : PZ163[272]? = some (.int .u8 0) := by kernel_rfl
@[simp, go_sem] theorem PZ163_273 : PZ163[273]? = some (.int .u8 0) := by kernel_rfl
@[simp, go_sem] theorem PZ163_274 : PZ163[274]? = some (.int .u8 0) := by kernel_rfl
@[simp, go_sem] theorem PZ163_275 : PZ163[275]? = some (.int .u8 0) := by kernel_rfl
@[simp, go_sem] theorem PZ163_276 : PZ163[276]? = some (.int .u8 0) := by kernel_rfl
@[simp, go_sem] theorem PZ163_277 : PZ163[277]? = some (.bool false) := by kernel_rfl
@[simp, go_sem] theorem PZ163_278 : PZ163[278]? = some (.bool false) := by kernel_rfl
@[simp, go_sem] theorem PZ163_279 : PZ163[279]? = some (.bool false) := by kernel_rfl
@[simp, go_sem] theorem PZ163_280 : PZ163[280]? = some (.int .u8 0) := by kernel_rfl
@[simp, go_sem] theorem PZ163_281 : PZ163[281]? = some (.bool false) := by kernel_rfl
@[simp, go_sem] theorem PZ163_282 : PZ163[282]? = some (.bool false) := by kernel_rfl
@[simp, go_sem] theorem PZ163_283 : PZ163[283]? = some (.bool false) := by kernel_rfl
@[simp, go_sem] theorem PZ163_284 : PZ163[284]? = some (.bool false) := by kernel_rfl
@[simp, go_sem] theorem PZ163_285 : PZ163[285]? = some (.bool false) := by kernel_rfl
@[simp, go_sem] theorem PZ163_286 : PZ163[286]? = some (.int .i64 0) := by kernel_rfl
@[simp, go_sem] theorem PZ163_287 : PZ163[287]? = some (.int .i64 0) := by kernel_rfl
@[simp, go_sem] theorem PZ163_288 : PZ163[288]? = some (.int .i64 0) := by kernel_rfl
@[simp, go_sem] theorem PZ163_289 : PZ163[289]? = some (.int .i64 0) := by kernel_rfl
@[simp, go_sem] theorem PZ163_290 : PZ163[290]? = some (.int .i64 0) := by kernel_rfl
@[simp, go_sem] theorem PZ163_291 : PZ163[291]? = some (.int .i64 0) := by kernel_rfl
@[simp, go_sem] theorem PZ163_292 : PZ163[292]? = some (.int .u32 0) := by kernel_rfl
@[simp, go_sem] theorem PZ163_293 : PZ163[293]? = some (.int .u32 0) := by kernel_rfl
@[simp, go_sem] theorem PZ163_294 : PZ163[294]? = some (.int .u32 0) := by kernel_rfl
@[simp, go_sem] theorem PZ163_295 : PZ163[295]? = some (.int .u32 0) := by kernel_rfl
@[simp, go_sem] theorem PZ163_296 : PZ163[296]? = some (.int .u32 0) := by kernel_rfl
@[simp, go_sem] theorem PZ163_297 : PZ163[297]? = some (.int .u32 0) := by kernel_rfl
@[simp, go_sem] theorem PZ163_298 : PZ163[298]? = some (.int .u32 0) := by kernel_rfl
@[simp, go_sem] theorem PZ163_299 : PZ163[299]? = some (.int .u32 0) := by kernel_rfl
@[simp, go_sem] theorem PZ163_300 : PZ163[300]? = some (.int .u32 0) := by kernel_rfl
@[simp, go_sem] theorem PZ163_301 : PZ163[301]? = some (.int .u32 0) := by kernel_rfl
@[simp, go_sem] theorem PZ163_302 : PZ163[302]? = some (.int .u32 0) := by kernel_rfl
@[simp, go_sem] theorem PZ163_303 : PZ163[303]? = some (.int .u32 0) := by kernel_rfl
@[simp, go_sem] theorem PZ163_304 : PZ163[304]? = some (.int .u32 0) := by kernel_rfl
@[simp, go_sem] theorem PZ163_305 : PZ163[305]? = some (.int .u32 0) := by kernel_rfl
@[simp, go_sem] theorem PZ163_306 : PZ163[306]? = some (.int .u32 0) := by kernel_rfl
@[simp, go_sem] theorem PZ163_307 : PZ163[307]? = some (.int .u32 0) := by kernel_rfl
@[simp, go_sem] theorem PZ163_308 : PZ163[308]? = some (.map none) := by kernel_rfl
@[simp, go_sem] theorem PZ163_309 : PZ163[309]? = some (.map none) := by kernel_rfl
@[simp, go_sem] theorem PZ163_310 : PZ163[310]? = some (.int .u32 0) := by kernel_rfl
@[simp, go_sem] theorem PZ163_311 : PZ163[311]? = some (.int .u32 0) := by kernel_rfl
@[simp, go_sem] theorem PZ163_312 : PZ163[312]? = some (.int .u32 0) := by kernel_rfl
@[simp, go_sem] theorem PZ163_313 : PZ163[313]? = some (.int .u32 0) := by kernel_rfl
@[simp, go_sem] theorem PZ163_314 : PZ163[314]? = some (.int .i32 0) := by kernel_rfl
@[simp, go_sem] theorem PZ163_315 : PZ163[315]? = some (.int .i32 0) := by kernel_rfl
@[simp, go_sem] theorem PZ163_316 : PZ163[316]? = some (.int .i32 0) := by kernel_rfl
@[simp, go_sem] theorem PZ163_317 : PZ163[317]? = some (.int .i32 0) := by kernel_rfl
@[simp, go_sem] theorem PZ163_318 : PZ163[318]? = some (.int .i32 0) := by kernel_rfl
@[simp, go_sem] theorem PZ163_319 : PZ163[319]? = some (.int .i32 0) := by kernel_rfl
@[simp, go_sem] theorem PZ163_320 : PZ163[320]? = some (.int .i32 0) := by kernel_rfl
@[simp, go_sem] theorem PZ163_321 : PZ163[321]? = some (.int .i32 0) := by kernel_rfl
@[simp, go_sem] theorem PZ163_322 : PZ163[322]? = some (.int .i32 0) := by kernel_rfl
@[simp, go_sem] theorem PZ163_323 : PZ163[323]? = some (.int .i32 0) := by kernel_rfl
@[simp, go_sem] theorem PZ163_324 : PZ163[324]? = some (.int .i32 0) := by kernel_rfl
@[simp, go_sem] theorem PZ163_325 : PZ163[325]? = some (.int .i32 0) := by kernel_rfl
@[simp, go_sem] theorem PZ163_326 : PZ163[326]? = some (.int .i32 0) := by kernel_rfl
@[simp, go_sem] theorem PZ163_327 : PZ163[327]? = some (.int .i32 0) := by kernel_rfl
@[simp, go_sem] theorem PZ163_328 : PZ163[328]? = some (.int .i32 0) := by kernel_rfl
@[simp, go_sem] theorem PZ163_329 : PZ163[329]? = some (.int .i32 0) := by kernel_rfl
@[simp, go_sem] theorem PZ163_330 : PZ163[330]? = some (.int .i32 0) := by kernel_rfl
@[simp, go_sem] theorem PZ163_331 : PZ163[331]? = some (.bool false) := by kernel_rfl
@[simp, go_sem] theorem PZ163_332 : PZ163[332]? = some (.bool false) := by kernel_rfl
@[simp, go_sem] theorem PZ163_333 : PZ163[333]? = some (.bool false) := by kernel_rfl
@[simp, go_sem] theorem PZ163_334 : PZ163[334]? = some (.bool false) := by kernel_rfl
@[simp, go_sem] theorem PZ163_335 : PZ163[335]? = some (.bool false) := by kernel_rfl
@[simp, go_sem] theorem PZ163_336 : PZ163[336]? = some (.bool false) := by kernel_rfl
@[simp, go_sem] theorem PZ163_337 : PZ163[337]? = some (.bool false) := by kernel_rfl
@[simp, go_sem] theorem PZ163_338 : PZ163[338]? = some (.bool false) := by kernel_rfl
@[simp, go_sem] theorem PZ163_339 : PZ163[339]? = some (.int .i64 0) := by kernel_rfl
@[simp, go_sem] theorem PZ163_340 : PZ163[340]? = some (.int .i32 0) := by kernel_rfl
@[simp, go_sem] theorem PZ163_341 : PZ163[341]? = some (.bool false) := by kernel_rfl
@[simp, go_sem] theorem PZ163_342 : PZ163[342]? = some (.bool false) := by kernel_rfl
@[simp, go_sem] theorem PZ163_343 : PZ163[343]? = some (.bool false) := by kernel_rfl
@[simp, go_sem] theorem PZ163_344 : PZ163[344]? = some (.bool false) := by kernel_rfl
@[simp, go_sem] theorem PZ163_345 : PZ163[345]? = some (.bool false) := by kernel_rfl
@[simp, go_sem] theorem PZ163_346 : PZ163[346]? = some (.bool false) := by kernel_rfl
@[simp, go_sem] theorem PZ163_347 : PZ163[347]? = some (.bool false) := by kernel_rfl
@[simp, go_sem] theorem PZ163_348 : PZ163[348]? = some (.bool false) := by kernel_rfl
@[simp, go_sem] theorem PZ163_349 : PZ163[349]? = some (.bool false) := by kernel_rfl
@[simp, go_sem] theorem PZ163_350 : PZ163[350]? = some (.bool false) := by kernel_rfl
@[simp, go_sem] theorem PZ163_351 : PZ163[351]? = some (.bool false) := by kernel_rfl
@[simp, go_sem] theorem PZ163_352 : PZ163[352]? = some (.bool false) := by kernel_rfl
@[go_sem ↓] theorem fa163_0 (b o : Nat) (w : World) : (Instr.fieldAt 163 (.pointer (some ⟨b, o, none⟩)) 0).run Tryf.prog w = .ok (.pointer (some ⟨b, o, none⟩)) w := by kernel_rfl
@[go_sem ↓] theorem fa163_1 (b o : Nat) (w : World) : (Instr.fieldAt 163 (.pointer (some ⟨b, o, none⟩)) 1).run Tryf.prog w = .ok (.pointer (some ⟨b, o + 51, none⟩)) w := by kernel_rfl
@[go_sem ↓] theorem fa163_2 (b o : Nat) (w : World) : (Instr.fieldAt 163 (.pointer (some ⟨b, o, none⟩)) 2).run Tryf.prog w = .ok (.pointer (some ⟨b, o + 57, none⟩)) w := by kernel_rfl
@[go_sem ↓] theorem fa163_3 (b o : Nat) (w : World) : (Instr.fieldAt 163 (.pointer (some ⟨b, o, none⟩)) 3).run Tryf.prog w = .ok (.pointer (some ⟨b, o + 67, none⟩)) w := by kernel_rfl
@[go_sem ↓] theorem fa163_4 (b o : Nat) (w : World) : (Instr.fieldAt 163 (.pointer (some ⟨b, o, none⟩)) 4).run Tryf.prog w = .ok (.pointer (some ⟨b, o + 77, none⟩)) w := by kernel_rfl
@[go_sem ↓] theorem fa163_5 (b o : Nat) (w : World) : (Instr.fieldAt 163 (.pointer (some ⟨b, o, none⟩)) 5).run Tryf.prog w = .ok (.pointer (some ⟨b, o + 92, none⟩)) w := by kernel_rfl
@[go_sem ↓] theorem fa163_6 (b o : Nat) (w : World) : (Instr.fieldAt 163 (.pointer (some ⟨b, o, none⟩)) 6).run Tryf.prog w = .ok (.pointer (some ⟨b, o + 103, none⟩)) w := by kernel_rfl
@[go_sem ↓] theorem fa163_7 (b o : Nat) (w : World) : (Instr.fieldAt 163 (.pointer (some ⟨b, o, none⟩)) 7).run Tryf.prog w = .ok (.pointer (some ⟨b, o + 104, none⟩)) w := by kernel_rfl
@[go_sem ↓] theorem fa163_8 (b o : Nat) (w : World) : (Instr.fieldAt 163 (.pointer (some ⟨b, o, none⟩)) 8).run Tryf.prog w = .ok (.pointer (some ⟨b, o + 105, none⟩)) w := by kernel_rfl
@[go_sem ↓] theorem fa163_9 (b o : Nat) (w : World) : (Instr.fieldAt 163 (.pointer (some ⟨b, o, none⟩)) 9).run Tryf.prog w = .ok (.pointer (some ⟨b, o + 106, none⟩)) w := by kernel_rfl
@[go_sem ↓] theorem fa163_10 (b o : Nat) (w : World) : (Instr.fieldAt 163 (.pointer (some ⟨b, o, none⟩)) 10).run Tryf.prog w = .ok (.pointer (some ⟨b, o + 107, none⟩)) w := by kernel_rfl
@[go_sem ↓] theorem fa163_11 (b o : Nat) (w : World) : (Instr.fieldAt 163 (.pointer (some ⟨b, o, none⟩)) 11).run Tryf.prog w = .ok (.pointer (some ⟨b, o + 108, none⟩)) w := by kernel_rfl
@[go_sem ↓] theorem fa163_12 (b o : Nat) (w : World) : (Instr.fieldAt 163 (.pointer (some ⟨b, o, none⟩)) 12).run Tryf.prog w = .ok (.pointer (some ⟨b, o + 109, none⟩)) w := by kernel_rfl
@[go_sem ↓] theorem fa163_13 (b o : Nat) (w : World) : (Instr.fieldAt 163 (.pointer (some ⟨b, o, none⟩)) 13).run Tryf.prog w = .ok (.pointer (some ⟨b, o + 110, none⟩)) w := by kernel_rfl
@[go_sem ↓] theorem fa163_14 (b o : Nat) (w : World) : (Instr.fieldAt 163 (.pointer (some ⟨b, o, none⟩)) 14).run Tryf.prog w = .ok (.pointer (some ⟨b, o + 111, none⟩)) w := by kernel_rfl
@[go_sem ↓] theorem fa163_15 (b o : Nat) (w : World) : (Instr.fieldAt 163 (.pointer (some ⟨b, o, none⟩)) 15).run Tryf.prog w = .ok (.pointer (some ⟨b, o + 112, none⟩)) w := by kernel_rfl
@[go_sem ↓] theorem fa163_16 (b o : Nat) (w : World) : (Instr.fieldAt 163 (.pointer (some ⟨b, o, none⟩)) 16).run Tryf.prog w = .ok (.pointer (some ⟨b, o + 113, none⟩)) w := by kernel_rfl
@[go_sem ↓] theorem fa163_17 (b o : Nat) (w : World) : (Instr.fieldAt 163 (.pointer (some ⟨b, o, none⟩)) 17).run Tryf.prog w = .ok (.pointer (some ⟨b, o + 114, none⟩)) w := by kernel_rfl
@[go_sem ↓] theorem fa163_18 (b o : Nat) (w : World) : (Instr.fieldAt 163 (.pointer (some ⟨b, o, none⟩)) 18).run Tryf.prog w = .ok (.pointer (some ⟨b, o + 115, none⟩)) w := by kernel_rfl
@[go_sem ↓] theorem fa163_19 (b o : Nat) (w : World) : (Instr.fieldAt 163 (.pointer (some ⟨b, o, none⟩)) 19).run Tryf.prog w = .ok (.pointer (some ⟨b, o + 116, none⟩)) w := by kernel_rfl
@[go_sem ↓] theorem fa163_20 (b o : Nat) (w : World) : (Instr.fieldAt 163 (.pointer (some ⟨b, o, none⟩)) 20).run Tryf.prog w = .ok (.pointer (some ⟨b, o + 117, none⟩)) w := by kernel_rfl
@[go_sem ↓] theorem fa163_21 (b o : Nat) (w : World) : (Instr.fieldAt 163 (.pointer (some ⟨b, o, none⟩)) 21).run Tryf.prog w = .ok (.pointer (some ⟨b, o + 118, none⟩)) w := by kernel_rfl
@[go_sem ↓] theorem fa163_22 (b o : Nat) (w : World) : (Instr.fieldAt 163 (.pointer (some ⟨b, o, none⟩)) 22).run Tryf.prog w = .ok (.pointer (some ⟨b, o + 151, none⟩)) w := by kernel_rfl
@[go_sem ↓] theorem fa163_23 (b o : Nat) (w : World) : (Instr.fieldAt 163 (.pointer (some ⟨b, o, none⟩)) 23).run Tryf.prog w = .ok (.pointer (some ⟨b, o + 152, none⟩)) w := by kernel_rfl
@[go_sem ↓] theorem fa163_24 (b o : Nat) (w : World) : (Instr.fieldAt 163 (.pointer (some ⟨b, o, none⟩)) 24).run Tryf.prog w = .ok (.pointer (some ⟨b, o + 153, none⟩)) w := by kernel_rfl
@[go_sem ↓] theorem fa163_25 (b o : Nat) (w : World) : (Instr.fieldAt 163 (.pointer (some ⟨b, o, none⟩)) 25).run Tryf.prog w = .ok (.pointer (some ⟨b, o + 154, none⟩)) w := by kernel_rfl
@[go_sem ↓] theorem fa163_26 (b o : Nat) (w : World) : (Instr.fieldAt 163 (.pointer (some ⟨b, o, none⟩)) 26).run Tryf.prog w = .ok (.pointer (some ⟨b, o + 155, none⟩)) w := by kernel_rfl
@[go_sem ↓] theorem fa163_27 (b o : Nat) (w : World) : (Instr.fieldAt 163 (.pointer (some ⟨b, o, none⟩)) 27).run Tryf.prog w = .ok (.pointer (some ⟨b, o + 156, none⟩)) w := by kernel_rfl
@[go_sem ↓] theorem fa163_28 (b o : Nat) (w : World) : (Instr.fieldAt 163 (.pointer (some ⟨b, o, none⟩)) 28).run Tryf.prog w = .ok (.pointer (some ⟨b, o + 157, none⟩)) w := by kernel_rfl
@[go_sem ↓] theorem fa163_29 (b o : Nat) (w : World) : (Instr.fieldAt 163 (.pointer (some ⟨b, o, none⟩)) 29).run Tryf.prog w = .ok (.pointer (some ⟨b, o + 158, none⟩)) w := by kernel_rfl
@[go_sem ↓] theorem fa163_30 (b o : Nat) (w : World) : (Instr.fieldAt 163 (.pointer (some ⟨b, o, none⟩)) 30).run Tryf.prog w = .ok (.pointer (some ⟨b, o + 159, none⟩)) w := by kernel_rfl
@[go_sem ↓] theorem fa163_31 (b o : Nat) (w : World) : (Instr.fieldAt 163 (.pointer (some ⟨b, o, none⟩)) 31).run Tryf.prog w = .ok (.pointer (some ⟨b, o + 160, none⟩)) w := by kernel_rfl
@[go_sem ↓] theorem fa163_32 (b o : Nat) (w : World) : (Instr.fieldAt 163 (.pointer (some ⟨b, o, none⟩)) 32).run Tryf.prog w = .ok (.pointer (some ⟨b, o + 161, none⟩)) w := by kernel_rfl
@[go_sem ↓] theorem fa163_33 (b o : Nat) (w : World) : (Instr.fieldAt 163 (.pointer (some ⟨b, o, none⟩)) 33).run Tryf.prog w = .ok (.pointer (some ⟨b, o + 162, none⟩)) w := by kernel_rfl
@[go_sem ↓] theorem fa163_34 (b o : Nat) (w : World) : (Instr.fieldAt 163 (.pointer (some ⟨b, o, none⟩)) 34).run Tryf.prog w = .ok (.pointer (some ⟨b, o + 163, none⟩)) w := by kernel_rfl
@[go_sem ↓] theorem fa163_35 (b o : Nat) (w : World) : (Instr.fieldAt 163 (.pointer (some ⟨b, o, none⟩)) 35).run Tryf.prog w = .ok (.pointer (some ⟨b, o + 164, none⟩)) w := by kernel_rfl
@[go_sem ↓] theorem fa163_36 (b o : Nat) (w : World) : (Instr.fieldAt 163 (.pointer (some ⟨b, o, none⟩)) 36).run Tryf.prog w = .ok (.pointer (some ⟨b, o + 165, none⟩)) w := by kernel_rfl
@[go_sem ↓] theorem fa163_37 (b o : Nat) (w : World) : (Instr.fieldAt 163 (.pointer (some ⟨b, o, none⟩)) 37).run Tryf.prog w = .ok (.pointer (some ⟨b, o + 166, none⟩)) w := by kernel_rfl
@[go_sem ↓] theorem fa163_38 (b o : Nat) (w : World) : (Instr.fieldAt 163 (.pointer (some ⟨b, o, none⟩)) 38).run Tryf.prog w = .ok (.pointer (some ⟨b, o + 167, none⟩)) w := by kernel_rfl
@[go_sem ↓] theorem fa163_39 (b o : Nat) (w : World) : (Instr.fieldAt 163 (.pointer (some ⟨b, o, none⟩)) 39).run Tryf.prog w = .ok (.pointer (some ⟨b, o + 168, none⟩)) w := by kernel_rfl
@[go_sem ↓] theorem fa163_40 (b o : Nat) (w : World) : (Instr.fieldAt 163 (.pointer (some ⟨b, o, none⟩)) 40).run Tryf.prog w = .ok (.pointer (some ⟨b, o + 169, none⟩)) w := by kernel_rfl
@[go_sem ↓] theorem fa163_41 (b o : Nat) (w : World) : (Instr.fieldAt 163 (.pointer (some ⟨b, o, none⟩)) 41).run Tryf.prog w = .ok (.pointer (some ⟨b, o + 170, none⟩)) w := by kernel_rfl
@[go_sem ↓] theorem fa163_42 (b o : Nat) (w : World) : (Instr.fieldAt 163 (.pointer (some ⟨b, o, none⟩)) 42).run Tryf.prog w = .ok (.pointer (some ⟨b, o + 171, none⟩)) w := by kernel_rfl
@[go_sem ↓] theorem fa163_43 (b o : Nat) (w : World) : (Instr.fieldAt 163 (.pointer (some ⟨b, o, none⟩)) 43).run Tryf.prog w = .ok (.pointer (some ⟨b, o + 172, none⟩)) w := by kernel_rfl
@[go_sem ↓] theorem fa163_44 (b o : Nat) (w : World) : (Instr.fieldAt 163 (.pointer (some ⟨b, o, none⟩)) 44).run Tryf.prog w = .ok (.pointer (some ⟨b, o + 173, none⟩)) w := by kernel_rfl
@[go_sem ↓] theorem fa163_45 (b o : Nat) (w : World) : (Instr.fieldAt 163 (.pointer (some ⟨b, o, none⟩)) 45).run Tryf.prog w = .ok (.pointer (some ⟨b, o + 174, none⟩)) w := by kernel_rfl
@[go_sem ↓] theorem fa163_46 (b o : Nat) (w : World) : (Instr.fieldAt 163 (.pointer (some ⟨b, o, none⟩)) 46).run Tryf.prog w = .ok (.pointer (some ⟨b, o + 175, none⟩)) w := by kernel_rfl
@[go_sem ↓] theorem fa163_47 (b o : Nat) (w : World) : (Instr.fieldAt 163 (.pointer (some ⟨b, o, none⟩)) 47).run Tryf.prog w = .ok (.pointer (some ⟨b, o + 176, none⟩)) w := by kernel_rfl
@[go_sem ↓] theorem fa163_48 (b o : Nat) (w : World) : (Instr.fieldAt 163 (.pointer (some ⟨b, o, none⟩)) 48).run Tryf.prog w = .ok (.pointer (some ⟨b, o + 177, none⟩)) w := by kernel_rfl
@[go_sem ↓] theorem fa163_49 (b o : Nat) (w : World) : (Instr.fieldAt 163 (.pointer (some ⟨b, o, none⟩)) 49).run Tryf.prog w = .ok (.pointer (some ⟨b, o + 178, none⟩)) w := by kernel_rfl
@[go_sem ↓] theorem fa163_50 (b o : Nat) (w : World) : (Instr.fieldAt 163 (.pointer (some ⟨b, o, none⟩)) 50).run Tryf.prog w = .ok (.pointer (some ⟨b, o + 179, none⟩)) w := by kernel_rfl
@[go_sem ↓] theorem fa163_51 (b o : Nat) (w : World) : (Instr.fieldAt 163 (.pointer (some ⟨b, o, none⟩)) 51).run Tryf.prog w = .ok (.pointer (some ⟨b, o + 180, none⟩)) w := by kernel_rfl
@[go_sem ↓] theorem fa163_52 (b o : Nat) (w : World) : (Instr.fieldAt 163 (.pointer (some ⟨b, o, none⟩)) 52).run Tryf.prog w = .ok (.pointer (some ⟨b, o + 181, none⟩)) w := by kernel_rfl
@[go_sem ↓] theorem fa163_53 (b o : Nat) (w : World) : (Instr.fieldAt 163 (.pointer (some ⟨b, o, none⟩)) 53).run Tryf.prog w = .ok (.pointer (some ⟨b, o + 182, none⟩)) w := by kernel_rfl
@[go_sem ↓] theorem fa163_54 (b o : Nat) (w : World) : (Instr.fieldAt 163 (.pointer (some ⟨b, o, none⟩)) 54).run Tryf.prog w = .ok (.pointer (some ⟨b, o + 183, none⟩)) w := by kernel_rfl
@[go_sem ↓] theorem fa163_55 (b o : Nat) (w : World) : (Instr.fieldAt 163 (.pointer (some ⟨b, o, none⟩)) 55).run Tryf.prog w = .ok (.pointer (some ⟨b, o + 184, none⟩)) w := by kernel_rfl
@[go_sem ↓] theorem fa163_56 (b o : Nat) (w : World) : (Instr.fieldAt 163 (.pointer (some ⟨b, o, none⟩)) 56).run Tryf.prog w = .ok (.pointer (some ⟨b, o + 185, none⟩)) w := by kernel_rfl
@[go_sem ↓] theorem fa163_57 (b o : Nat) (w : World) : (Instr.fieldAt 163 (.pointer (some ⟨b, o, none⟩)) 57).run Tryf.prog w = .ok (.pointer (some ⟨b, o + 186, none⟩)) w := by kernel_rfl
@[go_sem ↓] theorem fa163_58 (b o : Nat) (w : World) : (Instr.fieldAt 163 (.pointer (some ⟨b, o, none⟩)) 58).run Tryf.prog w = .ok (.pointer (some ⟨b, o + 187, none⟩)) w := by kernel_rfl
@[go_sem ↓] theorem fa163_59 (b o : Nat) (w : World) : (Instr.fieldAt 163 (.pointer (some ⟨b, o, none⟩)) 59).run Tryf.prog w = .ok (.pointer (some ⟨b, o + 188, none⟩)) w := by kernel_rfl
@[go_sem ↓] theorem fa163_60 (b o : Nat) (w : World) : (Instr.fieldAt 163 (.pointer (some ⟨b, o, none⟩)) 60).run Tryf.prog w = .ok (.pointer (some ⟨b, o + 190, none⟩)) w := by kernel_rfl
@[go_sem ↓] theorem fa163_61 (b o : Nat) (w : World) : (Instr.fieldAt 163 (.pointer (some ⟨b, o, none⟩)) 61).run Tryf.prog w = .ok (.pointer (some ⟨b, o + 191, none⟩)) w := by kernel_rfl
@[go_sem ↓] theorem fa163_62 (b o : Nat) (w : World) : (Instr.fieldAt 163 (.pointer (some ⟨b, o, none⟩)) 62).run Tryf.prog w = .ok (.pointer (some ⟨b, o + 192, none⟩)) w := by kernel_rfl
@[go_sem ↓] theorem fa163_63 (b o : Nat) (w : World) : (Instr.fieldAt 163 (.pointer (some ⟨b, o, none⟩)) 63).run Tryf.prog w = .ok (.pointer (some ⟨b, o + 196, none⟩)) w := by kernel_rfl
@[go_sem ↓] theorem fa163_64 (b o : Nat) (w : World) : (Instr.fieldAt 163 (.pointer (some ⟨b, o, none⟩)) 64).run Tryf.prog w = .ok (.pointer (some ⟨b, o + 197, none⟩)) w := by kernel_rfl
@[go_sem ↓] theorem fa163_65 (b o : Nat) (w : World) : (Instr.fieldAt 163 (.pointer (some ⟨b, o, none⟩)) 65).run Tryf.prog w = .ok (.pointer (some ⟨b, o + 198, none⟩)) w := by kernel_rfl
@[go_sem ↓] theorem fa163_66 (b o : Nat) (w : World) : (Instr.fieldAt 163 (.pointer (some ⟨b, o, none⟩)) 66).run Tryf.prog w = .ok (.pointer (some ⟨b, o + 199, none⟩)) w := by kernel_rfl
@[go_sem ↓] theorem fa163_67 (b o : Nat) (w : World) : (Instr.fieldAt 163 (.pointer (some ⟨b, o, none⟩)) 67).run Tryf.prog w = .ok (.pointer (some ⟨b, o + 200, none⟩)) w := by kernel_rfl
@[go_sem ↓] theorem fa163_68 (b o : Nat) (w : World) : (Instr.fieldAt 163 (.pointer (some ⟨b, o, none⟩)) 68).run Tryf.prog w = .ok (.pointer (some ⟨b, o + 201, none⟩)) w := by kernel_rfl
@[go_sem ↓] theorem fa163_69 (b o : Nat) (w : World) : (Instr.fieldAt 163 (.pointer (some ⟨b, o, none⟩)) 69).run Tryf.prog w = .ok (.pointer (some ⟨b, o + 286, none⟩)) w := by kernel_rfl
@[go_sem ↓] theorem fa163_70 (b o : Nat) (w : World) : (Instr.fieldAt 163 (.pointer (some ⟨b, o, none⟩)) 70).run Tryf.prog w = .ok (.pointer (some ⟨b, o + 287, none⟩)) w := by kernel_rfl
@[go_sem ↓] theorem fa163_71 (b o : Nat) (w : World) : (Instr.fieldAt 163 (.pointer (some ⟨b, o, none⟩)) 71).run Tryf.prog w = .ok (.pointer (some ⟨b, o + 288, none⟩)) w := by kernel_rfl
@[go_sem ↓] theorem fa163_72 (b o : Nat) (w : World) : (Instr.fieldAt 163 (.pointer (some ⟨b, o, none⟩)) 72).run Tryf.prog w = .ok (.pointer (some ⟨b, o + 289, none⟩)) w := by kernel_rfl
@[go_sem ↓] theorem fa163_73 (b o : Nat) (w : World) : (Instr.fieldAt 163 (.pointer (some ⟨b, o, none⟩)) 73).run Tryf.prog w = .ok (.pointer (some ⟨b, o + 290, none⟩)) w := by kernel_rfl
@[go_sem ↓] theorem fa163_74 (b o : Nat) (w : World) : (Instr.fieldAt 163 (.pointer (some ⟨b, o, none⟩)) 74).run Tryf.prog w = .ok (.pointer (some ⟨b, o + 291, none⟩)) w := by kernel_rfl
@[go_sem ↓] theorem fa163_75 (b o : Nat) (w : World) : (Instr.fieldAt 163 (.pointer (some ⟨b, o, none⟩)) 75).run Tryf.prog w = .ok (.pointer (some ⟨b, o + 292, none⟩)) w := by kernel_rfl
@[go_sem ↓] theorem fa163_76 (b o : Nat) (w : World) : (Instr.fieldAt 163 (.pointer (some ⟨b, o, none⟩)) 76).run Tryf.prog w = .ok (.pointer (some ⟨b, o + 294, none⟩)) w := by kernel_rfl
@[go_sem ↓] theorem fa163_77 (b o : Nat) (w : World) : (Instr.fieldAt 163 (.pointer (some ⟨b, o, none⟩)) 77).run Tryf.prog w = .ok (.pointer (some ⟨b, o + 296, none⟩)) w := by kernel_rfl
@[go_sem ↓] theorem fa163_78 (b o : Nat) (w : World) : (Instr.fieldAt 163 (.pointer (some ⟨b, o, none⟩)) 78).run Tryf.prog w = .ok (.pointer (some ⟨b, o + 298, none⟩)) w := by kernel_rfl
@[go_sem ↓] theorem fa163_79 (b o : Nat) (w : World) : (Instr.fieldAt 163 (.pointer (some ⟨b, o, none⟩)) 79).run Tryf.prog w = .ok (.pointer (some ⟨b, o + 300, none⟩)) w := by kernel_rfl
@[go_sem ↓] theorem fa163_80 (b o : Nat) (w : World) : (Instr.fieldAt 163 (.pointer (some ⟨b, o, none⟩)) 80).run Tryf.prog w = .ok (.pointer (some ⟨b, o + 302, none⟩)) w := by kernel_rfl
@[go_sem ↓] theorem fa163_81 (b o : Nat) (w : World) : (Instr.fieldAt 163 (.pointer (some ⟨b, o, none⟩)) 81).run Tryf.prog w = .ok (.pointer (some ⟨b, o + 304, none⟩)) w := by kernel_rfl
@[go_sem ↓] theorem fa163_82 (b o : Nat) (w : World) : (Instr.fieldAt 163 (.pointer (some ⟨b, o, none⟩)) 82).run Tryf.prog w = .ok (.pointer (some ⟨b, o + 306, none⟩)) w := by kernel_rfl
@[go_sem ↓] theorem fa163_83 (b o : Nat) (w : World) : (Instr.fieldAt 163 (.pointer (some ⟨b, o, none⟩)) 83).run Tryf.prog w = .ok (.pointer (some ⟨b, o + 308, none⟩)) w := by kernel_rfl
@[go_sem ↓] theorem fa163_84 (b o : Nat) (w : World) : (Instr.fieldAt 163 (.pointer (some ⟨b, o, none⟩)) 84).run Tryf.prog w = .ok (.pointer (some ⟨b, o + 309, none⟩)) w := by kernel_rfl
@[go_sem ↓] theorem fa163_85 (b o : Nat) (w : World) : (Instr.fieldAt 163 (.pointer (some ⟨b, o, none⟩)) 85).run Tryf.prog w = .ok (.pointer (some ⟨b, o + 310, none⟩)) w := by kernel_rfl
@[go_sem ↓] theorem fa163_86 (b o : Nat) (w : World) : (Instr.fieldAt 163 (.pointer (some ⟨b, o, none⟩)) 86).run Tryf.prog w = .ok (.pointer (some ⟨b, o + 312, none⟩)) w := by kernel_rfl
@[go_sem ↓] theorem fa163_87 (b o : Nat) (w : World) : (Instr.fieldAt 163 (.pointer (some ⟨b, o, none⟩)) 87).run Tryf.prog w = .ok (.pointer (some ⟨b, o + 314, none⟩)) w := by kernel_rfl
@[go_sem ↓] theorem fa163_88 (b o : Nat) (w : World) : (Instr.fieldAt 163 (.pointer (some ⟨b, o, none⟩)) 88).run Tryf.prog w = .ok (.pointer (some ⟨b, o + 316, none⟩)) w := by kernel_rfl
@[go_sem ↓] theorem fa163_89 (b o : Nat) (w : World) : (Instr.fieldAt 163 (.pointer (some ⟨b, o, none⟩)) 89).run Tryf.prog w = .ok (.pointer (some ⟨b, o + 318, none⟩)) w := by kernel_rfl
@[go_sem ↓] theorem fa163_90 (b o : Nat) (w : World) : (Instr.fieldAt 163 (.pointer (some ⟨b, o, none⟩)) 90).run Tryf.prog w = .ok (.pointer (some ⟨b, o + 320, none⟩)) w := by kernel_rfl
@[go_sem ↓] theorem fa163_91 (b o : Nat) (w : World) : (Instr.fieldAt 163 (.pointer (some ⟨b, o, none⟩)) 91).run Tryf.prog w = .ok (.pointer (some ⟨b, o + 322, none⟩)) w := by kernel_rfl
@[go_sem ↓] theorem fa163_92 (b o : Nat) (w : World) : (Instr.fieldAt 163 (.pointer (some ⟨b, o, none⟩)) 92).run Tryf.prog w = .ok (.pointer (some ⟨b, o + 324, none⟩)) w := by kernel_rfl
@[go_sem ↓] theorem fa163_93 (b o : Nat) (w : World) : (Instr.fieldAt 163 (.pointer (some ⟨b, o, none⟩)) 93).run Tryf.prog w = .ok (.pointer (some ⟨b, o + 326, none⟩)) w := by kernel_rfl
@[go_sem ↓] theorem fa163_94 (b o : Nat) (w : World) : (Instr.fieldAt 163 (.pointer (some ⟨b, o, none⟩)) 94).run Tryf.prog w = .ok (.pointer (some ⟨b, o + 327, none⟩)) w := by kernel_rfl
@[go_sem ↓] theorem fa163_95 (b o : Nat) (w : World) : (Instr.fieldAt 163 (.pointer (some ⟨b, o, none⟩)) 95).run Tryf.prog w = .ok (.pointer (some ⟨b, o + 328, none⟩)) w := by kernel_rfl
@[go_sem ↓] theorem fa163_96 (b o : Nat) (w : World) : (Instr.fieldAt 163 (.pointer (some ⟨b, o, none⟩)) 96).run Tryf.prog w = .ok (.pointer (some ⟨b, o + 329, none⟩)) w := by kernel_rfl
@[go_sem ↓] theorem fa163_97 (b o : Nat) (w : World) : (Instr.fieldAt 163 (.pointer (some ⟨b, o, none⟩)) 97).run Tryf.prog w = .ok (.pointer (some ⟨b, o + 339, none⟩)) w := by kernel_rfl
@[go_sem ↓] theorem fa163_98 (b o : Nat) (w : World) : (Instr.fieldAt 163 (.pointer (some ⟨b, o, none⟩)) 98).run Tryf.prog w = .ok (.pointer (some ⟨b, o + 340, none⟩)) w := by kernel_rfl
@[go_sem ↓] theorem fa163_99 (b o : Nat) (w : World) : (Instr.fieldAt 163 (.pointer (some ⟨b, o, none⟩)) 99).run Tryf.prog w = .ok (.pointer (some ⟨b, o + 341, none⟩)) w := by kernel_rfl
@[go_sem ↓] theorem fa163_100 (b o : Nat) (w : World) : (Instr.fieldAt 163 (.pointer (some ⟨b, o, none⟩)) 100).run Tryf.prog w = .ok (.pointer (some ⟨b, o + 342, none⟩)) w := by kernel_rfl
@[go_sem ↓] theorem fa163_101 (b o : Nat) (w : World) : (Instr.fieldAt 163 (.pointer (some ⟨b, o, none⟩)) 101).run Tryf.prog w = .ok (.pointer (some ⟨b, o + 343, none⟩)) w := by kernel_rfl
@[go_sem ↓] theorem fa163_102 (b o : Nat) (w : World) : (Instr.fieldAt 163 (.pointer (some ⟨b, o, none⟩)) 102).run Tryf.prog w = .ok (.pointer (some ⟨b, o + 344, none⟩)) w := by kernel_rfl
@[go_sem ↓] theorem fa163_103 (b o : Nat) (w : World) : (Instr.fieldAt 163 (.pointer (some ⟨b, o, none⟩)) 103).run Tryf.prog w = .ok (.pointer (some ⟨b, o + 345, none⟩)) w := by kernel_rfl
@[go_sem ↓] theorem fa163_104 (b o : Nat) (w : World) : (Instr.fieldAt 163 (.pointer (some ⟨b, o, none⟩)) 104).run Tryf.prog w = .ok (.pointer (some ⟨b, o + 346, none⟩)) w := by kernel_rfl
@[go_sem ↓] theorem fa163_105 (b o : Nat) (w : World) : (Instr.fieldAt 163 (.pointer (some ⟨b, o, none⟩)) 105).run Tryf.prog w = .ok (.pointer (some ⟨b, o + 347, none⟩)) w := by kernel_rfl
@[go_sem ↓] theorem fa163_106 (b o : Nat) (w : World) : (Instr.fieldAt 163 (.pointer (some ⟨b, o, none⟩)) 106).run Tryf.prog w = .ok (.pointer (some ⟨b, o + 348, none⟩)) w := by kernel_rfl
@[go_sem ↓] theorem fa163_107 (b o : Nat) (w : World) : (Instr.fieldAt 163 (.pointer (some ⟨b, o, none⟩)) 107).run Tryf.prog w = .ok (.pointer (some ⟨b, o + 349, none⟩)) w := by kernel_rfl
@[go_sem ↓] theorem fa163_108 (b o : Nat) (w : World) : (Instr.fieldAt 163 (.pointer (some ⟨b, o, none⟩)) 108).run Tryf.prog w = .ok (.pointer (some ⟨b, o + 350, none⟩)) w := by kernel_rfl
@[go_sem ↓] theorem fa163_109 (b o : Nat) (w : World) : (Instr.fieldAt 163 (.pointer (some ⟨b, o, none⟩)) 109).run Tryf.prog w = .ok (.pointer (some ⟨b, o + 351, none⟩)) w := by kernel_rfl
@[go_sem ↓] theorem fa163_110 (b o : Nat) (w : World) : (Instr.fieldAt 163 (.pointer (some ⟨b, o, none⟩)) 110).run Tryf.prog w = .ok (.pointer (some ⟨b, o + 352, none⟩)) w := by kernel_rfl

end Go.Proofs.YtidicogmfpfibabFmt
