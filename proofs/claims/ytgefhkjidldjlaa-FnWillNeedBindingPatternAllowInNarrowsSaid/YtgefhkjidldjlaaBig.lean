/-
  The struct types of many fields: the zero value's cells behind a name, where each field lies, what each zero cell holds.
-/
import Derived.Test.YtgefhkjidldjlaaKit
namespace Go.Proofs.Ytgefhkjidldjlaa
set_option maxRecDepth 100000

noncomputable def PZ159 : Array Value := match (Try.prog.info? 159).bind (·.zero) with | some (.agg c) => c | _ => #[]
@[go_sem ↓] theorem zv159 (w : World) : (zeroValue 159).run Try.prog w = .ok (.agg PZ159) w := by kernel_rfl
@[simp, go_sem] theorem PZ159_size : PZ159.size = 85 := by kernel_rfl
@[simp, go_sem] theorem PZ159_0 : PZ159[0]? = some (.slice none 0 0) := by kernel_rfl
@[simp, go_sem] theorem PZ159_1 : PZ159[1]? = some (.slice none 0 0) := by kernel_rfl
@[simp, go_sem] theorem PZ159_2 : PZ159[2]? = some (.slice none 0 0) := by kernel_rfl
@[simp, go_sem] theorem PZ159_3 : PZ159[3]? = some (.string ⟨#[]⟩) := by kernel_rfl
@[simp, go_sem] theorem PZ159_4 : PZ159[4]? = some (.int .u32 0) := by kernel_rfl
@[simp, go_sem] theorem PZ159_5 : PZ159[5]? = some (.nilFunc) := by kernel_rfl
@[simp, go_sem] theorem PZ159_6 : PZ159[6]? = some (.nilFunc) := by kernel_rfl
@[simp, go_sem] theorem PZ159_7 : PZ159[7]? = some (.nilFunc) := by kernel_rfl
@[simp, go_sem] theorem PZ159_8 : PZ159[8]? = some (.nilFunc) := by kernel_rfl
@[simp, go_sem] theorem PZ159_9 : PZ159[9]? = some (.int .i8 0) := by kernel_rfl
@[simp, go_sem] theorem PZ159_10 : PZ159[10]? = some (.map none) := by kernel_rfl
@[simp, go_sem] theorem PZ159_11 : PZ159[11]? = some (.string ⟨#[]⟩) := by kernel_rfl
@[simp, go_sem] theorem PZ159_12 : PZ159[12]? = some (.string ⟨#[]⟩) := by kernel_rfl
@[simp, go_sem] theorem PZ159_13 : PZ159[13]? = some (.string ⟨#[]⟩) := by kernel_rfl
@[simp, go_sem] theorem PZ159_14 : PZ159[14]? = some (.string ⟨#[]⟩) := by kernel_rfl
@[simp, go_sem] theorem PZ159_15 : PZ159[15]? = some (.string ⟨#[]⟩) := by kernel_rfl
@[simp, go_sem] theorem PZ159_16 : PZ159[16]? = some (.string ⟨#[]⟩) := by kernel_rfl
@[simp, go_sem] theorem PZ159_17 : PZ159[17]? = some (.string ⟨#[]⟩) := by kernel_rfl
@[simp, go_sem] theorem PZ159_18 : PZ159[18]? = some (.string ⟨#[]⟩) := by kernel_rfl
@[simp, go_sem] theorem PZ159_19 : PZ159[19]? = some (.int .u8 0) := by kernel_rfl
@[simp, go_sem] theorem PZ159_20 : PZ159[20]? = some (.int .u32 0) := by kernel_rfl
@[simp, go_sem] theorem PZ159_21 : PZ159[21]? = some (.string ⟨#[]⟩) := by kernel_rfl
@[simp, go_sem] theorem PZ159_22 : PZ159[22]? = some (.int .i32 0) := by kernel_rfl
@[simp, go_sem] theorem PZ159_23 : PZ159[23]? = some (.int .i32 0) := by kernel_rfl
@[simp, go_sem] theorem PZ159_24 : PZ159[24]? = some (.string ⟨#[]⟩) := by kernel_rfl
@[simp, go_sem] theorem PZ159_25 : PZ159[25]? = some (.int .i32 0) := by kernel_rfl
@[simp, go_sem] theorem PZ159_26 : PZ159[26]? = some (.int .i32 0) := by kernel_rfl
@[simp, go_sem] theorem PZ159_27 : PZ159[27]? = some (.string ⟨#[]⟩) := by kernel_rfl
@[simp, go_sem] theorem PZ159_28 : PZ159[28]? = some (.int .i32 0) := by kernel_rfl
@[simp, go_sem] theorem PZ159_29 : PZ159[29]? = some (.int .i32 0) := by kernel_rfl
@[simp, go_sem] theorem PZ159_30 : PZ159[30]? = some (.string ⟨#[]⟩) := by kernel_rfl
@[simp, go_sem] theorem PZ159_31 : PZ159[31]? = some (.int .i32 0) := by kernel_rfl
@[simp, go_sem] theorem PZ159_32 : PZ159[32]? = some (.int .i32 0) := by kernel_rfl
@[simp, go_sem] theorem PZ159_33 : PZ159[33]? = some (.string ⟨#[]⟩) := by kernel_rfl
@[simp, go_sem] theorem PZ159_34 : PZ159[34]? = some (.int .i32 0) := by kernel_rfl
@[simp, go_sem] theorem PZ159_35 : PZ159[35]? = some (.int .i32 0) := by kernel_rfl
@[simp, go_sem] theorem PZ159_36 : PZ159[36]? = some (.string ⟨#[]⟩) := by kernel_rfl
@[simp, go_sem] theorem PZ159_37 : PZ159[37]? = some (.slice none 0 0) := by kernel_rfl
@[simp, go_sem] theorem PZ159_38 : PZ159[38]? = some (.string ⟨#[]⟩) := by kernel_rfl
@[simp, go_sem] theorem PZ159_39 : PZ159[39]? = some (.string ⟨#[]⟩) := by kernel_rfl
@[simp, go_sem] theorem PZ159_40 : PZ159[40]? = some (.string ⟨#[]⟩) := by kernel_rfl
@[simp, go_sem] theorem PZ159_41 : PZ159[41]? = some (.string ⟨#[]⟩) := by kernel_rfl
@[simp, go_sem] theorem PZ159_42 : PZ159[42]? = some (.string ⟨#[]⟩) := by kernel_rfl
@[simp, go_sem] theorem PZ159_43 : PZ159[43]? = some (.int .i32 0) := by kernel_rfl
@[simp, go_sem] theorem PZ159_44 : PZ159[44]? = some (.int .i32 0) := by kernel_rfl
@[simp, go_sem] theorem PZ159_45 : PZ159[45]? = some (.int .i32 0) := by kernel_rfl
@[simp, go_sem] theorem PZ159_46 : PZ159[46]? = some (.int .i32 0) := by kernel_rfl
@[simp, go_sem] theorem PZ159_47 : PZ159[47]? = some (.bool false) := by kernel_rfl
@[simp, go_sem] theorem PZ159_48 : PZ159[48]? = some (.bool false) := by kernel_rfl
@[simp, go_sem] theorem PZ159_49 : PZ159[49]? = some (.bool false) := by kernel_rfl
@[simp, go_sem] theorem PZ159_50 : PZ159[50]? = some (.int .i64 0) := by kernel_rfl
@[simp, go_sem] theorem PZ159_51 : PZ159[51]? = some (.float .f64 0) := by kernel_rfl
@[simp, go_sem] theorem PZ159_52 : PZ159[52]? = some (.int .i64 0) := by kernel_rfl
@[simp, go_sem] theorem PZ159_53 : PZ159[53]? = some (.int .i64 0) := by kernel_rfl
@[simp, go_sem] theorem PZ159_54 : PZ159[54]? = some (.int .i64 0) := by kernel_rfl
@[simp, go_sem] theorem PZ159_55 : PZ159[55]? = some (.int .i64 0) := by kernel_rfl
@[simp, go_sem] theorem PZ159_56 : PZ159[56]? = some (.int .i64 0) := by kernel_rfl
@[simp, go_sem] theorem PZ159_57 : PZ159[57]? = some (.int .i32 0) := by kernel_rfl
@[simp, go_sem] theorem PZ159_58 : PZ159[58]? = some (.int .i32 0) := by kernel_rfl
@[simp, go_sem] theorem PZ159_59 : PZ159[59]? = some (.int .i32 0) := by kernel_rfl
@[simp, go_sem] theorem PZ159_60 : PZ159[60]? = some (.int .i32 0) := by kernel_rfl
@[simp, go_sem] theorem PZ159_61 : PZ159[61]? = some (.int .i32 0) := by kernel_rfl
@[simp, go_sem] theorem PZ159_62 : PZ159[62]? = some (.int .i32 0) := by kernel_rfl
@[simp, go_sem] theorem PZ159_63 : PZ159[63]? = some (.int .i32 0) := by kernel_rfl
@[simp, go_sem] theorem PZ159_64 : PZ159[64]? = some (.int .i32 0) := by kernel_rfl
@[simp, go_sem] theorem PZ159_65 : PZ159[65]? = some (.int .i32 0) := by kernel_rfl
@[simp, go_sem] theorem PZ159_66 : PZ159[66]? = some (.int .i32 0) := by kernel_rfl
@[simp, go_sem] theorem PZ159_67 : PZ159[67]? = some (.int .i32 0) := by kernel_rfl
@[simp, go_sem] theorem PZ159_68 : PZ159[68]? = some (.int .u8 0) := by kernel_rfl
@[simp, go_sem] theorem PZ159_69 : PZ159[69]? = some (.int .u8 0) := by kernel_rfl
@[simp, go_sem] theorem PZ159_70 : PZ159[70]? = some (.int .u8 0) := by kernel_rfl
@[simp, go_sem] theorem PZ159_71 : PZ159[71]? = some (.int .u8 0) := by kernel_rfl
@[simp, go_sem] theorem PZ159_72 : PZ159[72]? = some (.int .u8 0) := by kernel_rfl
@[simp, go_sem] theorem PZ159_73 : PZ159[73]? = some (.int .u8 0) := by kernel_rfl
@[simp, go_sem] theorem PZ159_74 : PZ159[74]? = some (.int .u8 0) := by kernel_rfl
@[simp, go_sem] theorem PZ159_75 : PZ159[75]? = some (.int .u8 0) := by kernel_rfl
@[simp, go_sem] theorem PZ159_76 : PZ159[76]? = some (.bool false) := by kernel_rfl
@[simp, go_sem] theorem PZ159_77 : PZ159[77]? = some (.bool false) := by kernel_rfl
@[simp, go_sem] theorem PZ159_78 : PZ159[78]? = some (.bool false) := by kernel_rfl
@[simp, go_sem] theorem PZ159_79 : PZ159[79]? = some (.int .u8 0) := by kernel_rfl
@[simp, go_sem] theorem PZ159_80 : PZ159[80]? = some (.bool false) := by kernel_rfl
@[simp, go_sem] theorem PZ159_81 : PZ159[81]? = some (.bool false) := by kernel_rfl
@[simp, go_sem] theorem PZ159_82 : PZ159[82]? = some (.bool false) := by kernel_rfl
@[simp, go_sem] theorem PZ159_83 : PZ159[83]? = some (.bool false) := by kernel_rfl
@[simp, go_sem] theorem PZ159_84 : PZ159[84]? = some (.bool false) := by kernel_rfl
@[go_sem ↓] theorem fa159_0 (b o : Nat) (w : World) : (Instr.fieldAt 159 (.pointer (some ⟨b, o, none⟩)) 0).run Try.prog w = .ok (.pointer (some ⟨b, o, none⟩)) w := by kernel_rfl
@[go_sem ↓] theorem fa159_1 (b o : Nat) (w : World) : (Instr.fieldAt 159 (.pointer (some ⟨b, o, none⟩)) 1).run Try.prog w = .ok (.pointer (some ⟨b, o + 1, none⟩)) w := by kernel_rfl
@[go_sem ↓] theorem fa159_2 (b o : Nat) (w : World) : (Instr.fieldAt 159 (.pointer (some ⟨b, o, none⟩)) 2).run Try.prog w = .ok (.pointer (some ⟨b, o + 2, none⟩)) w := by kernel_rfl
@[go_sem ↓] theorem fa159_3 (b o : Nat) (w : World) : (Instr.fieldAt 159 (.pointer (some ⟨b, o, none⟩)) 3).run Try.prog w = .ok (.pointer (some ⟨b, o + 3, none⟩)) w := by kernel_rfl
@[go_sem ↓] theorem fa159_4 (b o : Nat) (w : World) : (Instr.fieldAt 159 (.pointer (some ⟨b, o, none⟩)) 4).run Try.prog w = .ok (.pointer (some ⟨b, o + 5, none⟩)) w := by kernel_rfl
@[go_sem ↓] theorem fa159_5 (b o : Nat) (w : World) : (Instr.fieldAt 159 (.pointer (some ⟨b, o, none⟩)) 5).run Try.prog w = .ok (.pointer (some ⟨b, o + 11, none⟩)) w := by kernel_rfl
@[go_sem ↓] theorem fa159_6 (b o : Nat) (w : World) : (Instr.fieldAt 159 (.pointer (some ⟨b, o, none⟩)) 6).run Try.prog w = .ok (.pointer (some ⟨b, o + 21, none⟩)) w := by kernel_rfl
@[go_sem ↓] theorem fa159_7 (b o : Nat) (w : World) : (Instr.fieldAt 159 (.pointer (some ⟨b, o, none⟩)) 7).run Try.prog w = .ok (.pointer (some ⟨b, o + 24, none⟩)) w := by kernel_rfl
@[go_sem ↓] theorem fa159_8 (b o : Nat) (w : World) : (Instr.fieldAt 159 (.pointer (some ⟨b, o, none⟩)) 8).run Try.prog w = .ok (.pointer (some ⟨b, o + 27, none⟩)) w := by kernel_rfl
@[go_sem ↓] theorem fa159_9 (b o : Nat) (w : World) : (Instr.fieldAt 159 (.pointer (some ⟨b, o, none⟩)) 9).run Try.prog w = .ok (.pointer (some ⟨b, o + 30, none⟩)) w := by kernel_rfl
@[go_sem ↓] theorem fa159_10 (b o : Nat) (w : World) : (Instr.fieldAt 159 (.pointer (some ⟨b, o, none⟩)) 10).run Try.prog w = .ok (.pointer (some ⟨b, o + 33, none⟩)) w := by kernel_rfl
@[go_sem ↓] theorem fa159_11 (b o : Nat) (w : World) : (Instr.fieldAt 159 (.pointer (some ⟨b, o, none⟩)) 11).run Try.prog w = .ok (.pointer (some ⟨b, o + 36, none⟩)) w := by kernel_rfl
@[go_sem ↓] theorem fa159_12 (b o : Nat) (w : World) : (Instr.fieldAt 159 (.pointer (some ⟨b, o, none⟩)) 12).run Try.prog w = .ok (.pointer (some ⟨b, o + 37, none⟩)) w := by kernel_rfl
@[go_sem ↓] theorem fa159_13 (b o : Nat) (w : World) : (Instr.fieldAt 159 (.pointer (some ⟨b, o, none⟩)) 13).run Try.prog w = .ok (.pointer (some ⟨b, o + 38, none⟩)) w := by kernel_rfl
@[go_sem ↓] theorem fa159_14 (b o : Nat) (w : World) : (Instr.fieldAt 159 (.pointer (some ⟨b, o, none⟩)) 14).run Try.prog w = .ok (.pointer (some ⟨b, o + 39, none⟩)) w := by kernel_rfl
@[go_sem ↓] theorem fa159_15 (b o : Nat) (w : World) : (Instr.fieldAt 159 (.pointer (some ⟨b, o, none⟩)) 15).run Try.prog w = .ok (.pointer (some ⟨b, o + 40, none⟩)) w := by kernel_rfl
@[go_sem ↓] theorem fa159_16 (b o : Nat) (w : World) : (Instr.fieldAt 159 (.pointer (some ⟨b, o, none⟩)) 16).run Try.prog w = .ok (.pointer (some ⟨b, o + 50, none⟩)) w := by kernel_rfl
@[go_sem ↓] theorem fa159_17 (b o : Nat) (w : World) : (Instr.fieldAt 159 (.pointer (some ⟨b, o, none⟩)) 17).run Try.prog w = .ok (.pointer (some ⟨b, o + 51, none⟩)) w := by kernel_rfl
@[go_sem ↓] theorem fa159_18 (b o : Nat) (w : World) : (Instr.fieldAt 159 (.pointer (some ⟨b, o, none⟩)) 18).run Try.prog w = .ok (.pointer (some ⟨b, o + 52, none⟩)) w := by kernel_rfl
@[go_sem ↓] theorem fa159_19 (b o : Nat) (w : World) : (Instr.fieldAt 159 (.pointer (some ⟨b, o, none⟩)) 19).run Try.prog w = .ok (.pointer (some ⟨b, o + 53, none⟩)) w := by kernel_rfl
@[go_sem ↓] theorem fa159_20 (b o : Nat) (w : World) : (Instr.fieldAt 159 (.pointer (some ⟨b, o, none⟩)) 20).run Try.prog w = .ok (.pointer (some ⟨b, o + 54, none⟩)) w := by kernel_rfl
@[go_sem ↓] theorem fa159_21 (b o : Nat) (w : World) : (Instr.fieldAt 159 (.pointer (some ⟨b, o, none⟩)) 21).run Try.prog w = .ok (.pointer (some ⟨b, o + 55, none⟩)) w := by kernel_rfl
@[go_sem ↓] theorem fa159_22 (b o : Nat) (w : World) : (Instr.fieldAt 159 (.pointer (some ⟨b, o, none⟩)) 22).run Try.prog w = .ok (.pointer (some ⟨b, o + 56, none⟩)) w := by kernel_rfl
@[go_sem ↓] theorem fa159_23 (b o : Nat) (w : World) : (Instr.fieldAt 159 (.pointer (some ⟨b, o, none⟩)) 23).run Try.prog w = .ok (.pointer (some ⟨b, o + 57, none⟩)) w := by kernel_rfl
@[go_sem ↓] theorem fa159_24 (b o : Nat) (w : World) : (Instr.fieldAt 159 (.pointer (some ⟨b, o, none⟩)) 24).run Try.prog w = .ok (.pointer (some ⟨b, o + 59, none⟩)) w := by kernel_rfl
@[go_sem ↓] theorem fa159_25 (b o : Nat) (w : World) : (Instr.fieldAt 159 (.pointer (some ⟨b, o, none⟩)) 25).run Try.prog w = .ok (.pointer (some ⟨b, o + 60, none⟩)) w := by kernel_rfl
@[go_sem ↓] theorem fa159_26 (b o : Nat) (w : World) : (Instr.fieldAt 159 (.pointer (some ⟨b, o, none⟩)) 26).run Try.prog w = .ok (.pointer (some ⟨b, o + 61, none⟩)) w := by kernel_rfl
@[go_sem ↓] theorem fa159_27 (b o : Nat) (w : World) : (Instr.fieldAt 159 (.pointer (some ⟨b, o, none⟩)) 27).run Try.prog w = .ok (.pointer (some ⟨b, o + 62, none⟩)) w := by kernel_rfl
@[go_sem ↓] theorem fa159_28 (b o : Nat) (w : World) : (Instr.fieldAt 159 (.pointer (some ⟨b, o, none⟩)) 28).run Try.prog w = .ok (.pointer (some ⟨b, o + 64, none⟩)) w := by kernel_rfl
@[go_sem ↓] theorem fa159_29 (b o : Nat) (w : World) : (Instr.fieldAt 159 (.pointer (some ⟨b, o, none⟩)) 29).run Try.prog w = .ok (.pointer (some ⟨b, o + 66, none⟩)) w := by kernel_rfl
@[go_sem ↓] theorem fa159_30 (b o : Nat) (w : World) : (Instr.fieldAt 159 (.pointer (some ⟨b, o, none⟩)) 30).run Try.prog w = .ok (.pointer (some ⟨b, o + 67, none⟩)) w := by kernel_rfl
@[go_sem ↓] theorem fa159_31 (b o : Nat) (w : World) : (Instr.fieldAt 159 (.pointer (some ⟨b, o, none⟩)) 31).run Try.prog w = .ok (.pointer (some ⟨b, o + 68, none⟩)) w := by kernel_rfl
@[go_sem ↓] theorem fa159_32 (b o : Nat) (w : World) : (Instr.fieldAt 159 (.pointer (some ⟨b, o, none⟩)) 32).run Try.prog w = .ok (.pointer (some ⟨b, o + 69, none⟩)) w := by kernel_rfl
@[go_sem ↓] theorem fa159_33 (b o : Nat) (w : World) : (Instr.fieldAt 159 (.pointer (some ⟨b, o, none⟩)) 33).run Try.prog w = .ok (.pointer (some ⟨b, o + 70, none⟩)) w := by kernel_rfl
@[go_sem ↓] theorem fa159_34 (b o : Nat) (w : World) : (Instr.fieldAt 159 (.pointer (some ⟨b, o, none⟩)) 34).run Try.prog w = .ok (.pointer (some ⟨b, o + 78, none⟩)) w := by kernel_rfl
@[go_sem ↓] theorem fa159_35 (b o : Nat) (w : World) : (Instr.fieldAt 159 (.pointer (some ⟨b, o, none⟩)) 35).run Try.prog w = .ok (.pointer (some ⟨b, o + 79, none⟩)) w := by kernel_rfl
@[go_sem ↓] theorem fa159_36 (b o : Nat) (w : World) : (Instr.fieldAt 159 (.pointer (some ⟨b, o, none⟩)) 36).run Try.prog w = .ok (.pointer (some ⟨b, o + 80, none⟩)) w := by kernel_rfl
@[go_sem ↓] theorem fa159_37 (b o : Nat) (w : World) : (Instr.fieldAt 159 (.pointer (some ⟨b, o, none⟩)) 37).run Try.prog w = .ok (.pointer (some ⟨b, o + 81, none⟩)) w := by kernel_rfl
@[go_sem ↓] theorem fa159_38 (b o : Nat) (w : World) : (Instr.fieldAt 159 (.pointer (some ⟨b, o, none⟩)) 38).run Try.prog w = .ok (.pointer (some ⟨b, o + 82, none⟩)) w := by kernel_rfl
@[go_sem ↓] theorem fa159_39 (b o : Nat) (w : World) : (Instr.fieldAt 159 (.pointer (some ⟨b, o, none⟩)) 39).run Try.prog w = .ok (.pointer (some ⟨b, o + 83, none⟩)) w := by kernel_rfl
@[go_sem ↓] theorem fa159_40 (b o : Nat) (w : World) : (Instr.fieldAt 159 (.pointer (some ⟨b, o, none⟩)) 40).run Try.prog w = .ok (.pointer (some ⟨b, o + 84, none⟩)) w := by kernel_rfl
noncomputable def PZ165 : Array Value := match (Try.prog.info? 165).bind (·.zero) with | some (.agg c) => c | _ => #[]
@[go_sem ↓] theorem zv165 (w : World) : (zeroValue 165).run Try.prog w = .ok (.agg PZ165) w := by kernel_rfl
@[simp, go_sem] theorem PZ165_size : PZ165.size = 353 := by kernel_rfl
@[simp, go_sem] theorem PZ165_0 : PZ165[0]? = some (.slice none 0 0) := by kernel_rfl
@[simp, go_sem] theorem PZ165_1 : PZ165[1]? = some (.nilIface) := by kernel_rfl
@[simp, go_sem] theorem PZ165_2 : PZ165[2]? = some (.slice none 0 0) := by kernel_rfl
@[simp, go_sem] theorem PZ165_3 : PZ165[3]? = some (.int .u32 0) := by kernel_rfl
@[simp, go_sem] theorem PZ165_4 : PZ165[4]? = some (.nilIface) := by kernel_rfl
@[simp, go_sem] theorem PZ165_5 : PZ165[5]? = some (.slice none 0 0) := by kernel_rfl
@[simp, go_sem] theorem PZ165_6 : PZ165[6]? = some (.int .u32 0) := by kernel_rfl
@[simp, go_sem] theorem PZ165_7 : PZ165[7]? = some (.bool false) := by kernel_rfl
@[simp, go_sem] theorem PZ165_8 : PZ165[8]? = some (.bool false) := by kernel_rfl
@[simp, go_sem] theorem PZ165_9 : PZ165[9]? = some (.bool false) := by kernel_rfl
@[simp, go_sem] theorem PZ165_10 : PZ165[10]? = some (.string ⟨#[]⟩) := by kernel_rfl
@[simp, go_sem] theorem PZ165_11 : PZ165[11]? = some (.bool false) := by kernel_rfl
@[simp, go_sem] theorem PZ165_12 : PZ165[12]? = some (.bool false) := by kernel_rfl
@[simp, go_sem] theorem PZ165_13 : PZ165[13]? = some (.pointer none) := by kernel_rfl
@[simp, go_sem] theorem PZ165_14 : PZ165[14]? = some (.pointer none) := by kernel_rfl
@[simp, go_sem] theorem PZ165_15 : PZ165[15]? = some (.pointer none) := by kernel_rfl
@[simp, go_sem] theorem PZ165_16 : PZ165[16]? = some (.slice none 0 0) := by kernel_rfl
@[simp, go_sem] theorem PZ165_17 : PZ165[17]? = some (.pointer none) := by kernel_rfl
@[simp, go_sem] theorem PZ165_18 : PZ165[18]? = some (.string ⟨#[]⟩) := by kernel_rfl
@[simp, go_sem] theorem PZ165_19 : PZ165[19]? = some (.pointer none) := by kernel_rfl
@[simp, go_sem] theorem PZ165_20 : PZ165[20]? = some (.int .i32 0) := by kernel_rfl
@[simp, go_sem] theorem PZ165_21 : PZ165[21]? = some (.int .i32 0) := by kernel_rfl
@[simp, go_sem] theorem PZ165_22 : PZ165[22]? = some (.int .u8 0) := by kernel_rfl
@[simp, go_sem] theorem PZ165_23 : PZ165[23]? = some (.int .u64 0) := by kernel_rfl
@[simp, go_sem] theorem PZ165_24 : PZ165[24]? = some (.int .u64 0) := by kernel_rfl
@[simp, go_sem] theorem PZ165_25 : PZ165[25]? = some (.int .u64 0) := by kernel_rfl
@[simp, go_sem] theorem PZ165_26 : PZ165[26]? = some (.int .u8 0) := by kernel_rfl
@[simp, go_sem] theorem PZ165_27 : PZ165[27]? = some (.int .u8 0) := by kernel_rfl
@[simp, go_sem] theorem PZ165_28 : PZ165[28]? = some (.int .u8 0) := by kernel_rfl
@[simp, go_sem] theorem PZ165_29 : PZ165[29]? = some (.int .u8 0) := by kernel_rfl
@[simp, go_sem] theorem PZ165_30 : PZ165[30]? = some (.int .u8 0) := by kernel_rfl
@[simp, go_sem] theorem PZ165_31 : PZ165[31]? = some (.int .u8 0) := by kernel_rfl
@[simp, go_sem] theorem PZ165_32 : PZ165[32]? = some (.bool false) := by kernel_rfl
@[simp, go_sem] theorem PZ165_33 : PZ165[33]? = some (.bool false) := by kernel_rfl
@[simp, go_sem] theorem PZ165_34 : PZ165[34]? = some (.int .u8 0) := by kernel_rfl
@[simp, go_sem] theorem PZ165_35 : PZ165[35]? = some (.int .u8 0) := by kernel_rfl
@[simp, go_sem] theorem PZ165_36 : PZ165[36]? = some (.int .u8 0) := by kernel_rfl
@[simp, go_sem] theorem PZ165_37 : PZ165[37]? = some (.int .u8 0) := by kernel_rfl
@[simp, go_sem] theorem PZ165_38 : PZ165[38]? = some (.int .u8 0) := by kernel_rfl
@[simp, go_sem] theorem PZ165_39 : PZ165[39]? = some (.bool false) := by kernel_rfl
@[simp, go_sem] theorem PZ165_40 : PZ165[40]? = some (.bool false) := by kernel_rfl
@[simp, go_sem] theorem PZ165_41 : PZ165[41]? = some (.bool false) := by kernel_rfl
@[simp, go_sem] theorem PZ165_42 : PZ165[42]? = some (.bool false) := by kernel_rfl
@[simp, go_sem] theorem PZ165_43 : PZ165[43]? = some (.bool false) := by kernel_rfl
@[simp, go_sem] theorem PZ165_44 : PZ165[44]? = some (.bool false) := by kernel_rfl
@[simp, go_sem] theorem PZ165_45 : PZ165[45]? = some (.bool false) := by kernel_rfl
@[simp, go_sem] theorem PZ165_46 : PZ165[46]? = some (.bool false) := by kernel_rfl
@[simp, go_sem] theorem PZ165_47 : PZ165[47]? = some (.bool false) := by kernel_rfl
@[simp, go_sem] theorem PZ165_48 : PZ165[48]? = some (.bool false) := by kernel_rfl
@[simp, go_sem] theorem PZ165_49 : PZ165[49]? = some (.bool false) := by kernel_rfl
@[simp, go_sem] theorem PZ165_50 : PZ165[50]? = some (.bool false) := by kernel_rfl
@[simp, go_sem] theorem PZ165_51 : PZ165[51]? = some (.nilFunc) := by kernel_rfl
@[simp, go_sem] theorem PZ165_52 : PZ165[52]? = some (.nilFunc) := by kernel_rfl
@[simp, go_sem] theorem PZ165_53 : PZ165[53]? = some (.nilFunc) := by kernel_rfl
@[simp, go_sem] theorem PZ165_54 : PZ165[54]? = some (.nilFunc) := by kernel_rfl
@[simp, go_sem] theorem PZ165_55 : PZ165[55]? = some (.int .i8 0) := by kernel_rfl
@[simp, go_sem] theorem PZ165_56 : PZ165[56]? = some (.map none) := by kernel_rfl
@[simp, go_sem] theorem PZ165_57 : PZ165[57]? = some (.string ⟨#[]⟩) := by kernel_rfl
@[simp, go_sem] theorem PZ165_58 : PZ165[58]? = some (.string ⟨#[]⟩) := by kernel_rfl
@[simp, go_sem] theorem PZ165_59 : PZ165[59]? = some (.string ⟨#[]⟩) := by kernel_rfl
@[simp, go_sem] theorem PZ165_60 : PZ165[60]? = some (.string ⟨#[]⟩) := by kernel_rfl
@[simp, go_sem] theorem PZ165_61 : PZ165[61]? = some (.string ⟨#[]⟩) := by kernel_rfl
@[simp, go_sem] theorem PZ165_62 : PZ165[62]? = some (.string ⟨#[]⟩) := by kernel_rfl
@[simp, go_sem] theorem PZ165_63 : PZ165[63]? = some (.string ⟨#[]⟩) := by kernel_rfl
@[simp, go_sem] theorem PZ165_64 : PZ165[64]? = some (.string ⟨#[]⟩) := by kernel_rfl
@[simp, go_sem] theorem PZ165_65 : PZ165[65]? = some (.int .u8 0) := by kernel_rfl
@[simp, go_sem] theorem PZ165_66 : PZ165[66]? = some (.int .u32 0) := by kernel_rfl
@[simp, go_sem] theorem PZ165_67 : PZ165[67]? = some (.string ⟨#[]⟩) := by kernel_rfl
@[simp, go_sem] theorem PZ165_68 : PZ165[68]? = some (.string ⟨#[]⟩) := by kernel_rfl
@[simp, go_sem] theorem PZ165_69 : PZ165[69]? = some (.string ⟨#[]⟩) := by kernel_rfl
@[simp, go_sem] theorem PZ165_70 : PZ165[70]? = some (.int .i32 0) := by kernel_rfl
@[simp, go_sem] theorem PZ165_71 : PZ165[71]? = some (.int .i32 0) := by kernel_rfl
@[simp, go_sem] theorem PZ165_72 : PZ165[72]? = some (.int .i32 0) := by kernel_rfl
@[simp, go_sem] theorem PZ165_73 : PZ165[73]? = some (.int .i32 0) := by kernel_rfl
@[simp, go_sem] theorem PZ165_74 : PZ165[74]? = some (.bool false) := by kernel_rfl
@[simp, go_sem] theorem PZ165_75 : PZ165[75]? = some (.bool false) := by kernel_rfl
@[simp, go_sem] theorem PZ165_76 : PZ165[76]? = some (.bool false) := by kernel_rfl
@[simp, go_sem] theorem PZ165_77 : PZ165[77]? = some (.pointer none) := by kernel_rfl
@[simp, go_sem] theorem PZ165_78 : PZ165[78]? = some (.pointer none) := by kernel_rfl
@[simp, go_sem] theorem PZ165_79 : PZ165[79]? = some (.int .i32 0) := by kernel_rfl
@[simp, go_sem] theorem PZ165_80 : PZ165[80]? = some (.int .i32 0) := by kernel_rfl
@[simp, go_sem] theorem PZ165_81 : PZ165[81]? = some (.int .i32 0) := by kernel_rfl
@[simp, go_sem] theorem PZ165_82 : PZ165[82]? = some (.int .u8 0) := by kernel_rfl
@[simp, go_sem] theorem PZ165_83 : PZ165[83]? = some (.int .u8 0) := by kernel_rfl
@[simp, go_sem] theorem PZ165_84 : PZ165[84]? = some (.bool false) := by kernel_rfl
@[simp, go_sem] theorem PZ165_85 : PZ165[85]? = some (.bool false) := by kernel_rfl
@[simp, go_sem] theorem PZ165_86 : PZ165[86]? = some (.bool false) := by kernel_rfl
@[simp, go_sem] theorem PZ165_87 : PZ165[87]? = some (.bool false) := by kernel_rfl
@[simp, go_sem] theorem PZ165_88 : PZ165[88]? = some (.bool false) := by kernel_rfl
@[simp, go_sem] theorem PZ165_89 : PZ165[89]? = some (.bool false) := by kernel_rfl
@[simp, go_sem] theorem PZ165_90 : PZ165[90]? = some (.bool false) := by kernel_rfl
@[simp, go_sem] theorem PZ165_91 : PZ165[91]? = some (.bool false) := by kernel_rfl
@[simp, go_sem] theorem PZ165_92 : PZ165[92]? = some (.pointer none) := by kernel_rfl
@[simp, go_sem] theorem PZ165_93 : PZ165[93]? = some (.pointer none) := by kernel_rfl
@[simp, go_sem] theorem PZ165_94 : PZ165[94]? = some (.pointer none) := by kernel_rfl
@[simp, go_sem] theorem PZ165_95 : PZ165[95]? = some (.bool false) := by kernel_rfl
@[simp, go_sem] theorem PZ165_96 : PZ165[96]? = some (.bool false) := by kernel_rfl
@[simp, go_sem] theorem PZ165_97 : PZ165[97]? = some (.pointer none) := by kernel_rfl
@[simp, go_sem] theorem PZ165_98 : PZ165[98]? = some (.bool false) := by kernel_rfl
@[simp, go_sem] theorem PZ165_99 : PZ165[99]? = some (.bool false) := by kernel_rfl
@[simp, go_sem] theorem PZ165_100 : PZ165[100]? = some (.bool false) := by kernel_rfl
@[simp, go_sem] theorem PZ165_101 : PZ165[101]? = some (.bool false) := by kernel_rfl
@[simp, go_sem] theorem PZ165_102 : PZ165[102]? = some (.bool false) := by kernel_rfl
@[simp, go_sem] theorem PZ165_103 : PZ165[103]? = some (.slice none 0 0) := by kernel_rfl
@[simp, go_sem] theorem PZ165_104 : PZ165[104]? = some (.pointer none) := by kernel_rfl
@[simp, go_sem] theorem PZ165_105 : PZ165[105]? = some (.pointer none) := by kernel_rfl
@[simp, go_sem] theorem PZ165_106 : PZ165[106]? = some (.slice none 0 0) := by kernel_rfl
@[simp, go_sem] theorem PZ165_107 : PZ165[107]? = some (.nilFunc) := by kernel_rfl
@[simp, go_sem] theorem PZ165_108 : PZ165[108]? = some (.slice none 0 0) := by kernel_rfl
@[simp, go_sem] theorem PZ165_109 : PZ165[109]? = some (.slice none 0 0) := by kernel_rfl
@[simp, go_sem] theorem PZ165_110 : PZ165[110]? = some (.map none) := by kernel_rfl
@[simp, go_sem] theorem PZ165_111 : PZ165[111]? = some (.map none) := by kernel_rfl
@[simp, go_sem] theorem PZ165_112 : PZ165[112]? = some (.map none) := by kernel_rfl
@[simp, go_sem] theorem PZ165_113 : PZ165[113]? = some (.map none) := by kernel_rfl
@[simp, go_sem] theorem PZ165_114 : PZ165[114]? = some (.map none) := by kernel_rfl
@[simp, go_sem] theorem PZ165_115 : PZ165[115]? = some (.map none) := by kernel_rfl
@[simp, go_sem] theorem PZ165_116 : PZ165[116]? = some (.slice none 0 0) := by kernel_rfl
@[simp, go_sem] theorem PZ165_117 : PZ165[117]? = some (.map none) := by kernel_rfl
@[simp, go_sem] theorem PZ165_118 : PZ165[118]? = some (.slice none 0 0) := by kernel_rfl
@[simp, go_sem] theorem PZ165_119 : PZ165[119]? = some (.int .u8 0) := by kernel_rfl
@[simp, go_sem] theorem PZ165_120 : PZ165[120]? = some (.int .u8 0) := by kernel_rfl
@[simp, go_sem] theorem PZ165_121 : PZ165[121]? = some (.int .u8 0) := by kernel_rfl
@[simp, go_sem] theorem PZ165_122 : PZ165[122]? = some (.int .u8 0) := by kernel_rfl
@[simp, go_sem] theorem PZ165_123 : PZ165[123]? = some (.int .u8 0) := by kernel_rfl
@[simp, go_sem] theorem PZ165_124 : PZ165[124]? = some (.int .u8 0) := by kernel_rfl
@[simp, go_sem] theorem PZ165_125 : PZ165[125]? = some (.int .u8 0) := by kernel_rfl
@[simp, go_sem] theorem PZ165_126 : PZ165[126]? = some (.int .u8 0) := by kernel_rfl
@[simp, go_sem] theorem PZ165_127 : PZ165[127]? = some (.int .u8 0) := by kernel_rfl
@[simp, go_sem] theorem PZ165_128 : PZ165[128]? = some (.int .u8 0) := by kernel_rfl
@[simp, go_sem] theorem PZ165_129 : PZ165[129]? = some (.int .u8 0) := by kernel_rfl
@[simp, go_sem] theorem PZ165_130 : PZ165[130]? = some (.int .u8 0) := by kernel_rfl
@[simp, go_sem] theorem PZ165_131 : PZ165[131]? = some (.int .u8 0) := by kernel_rfl
@[simp, go_sem] theorem PZ165_132 : PZ165[132]? = some (.int .u8 0) := by kernel_rfl
@[simp, go_sem] theorem PZ165_133 : PZ165[133]? = some (.int .u8 0) := by kernel_rfl
@[simp, go_sem] theorem PZ165_134 : PZ165[134]? = some (.int .u8 0) := by kernel_rfl
@[simp, go_sem] theorem PZ165_135 : PZ165[135]? = some (.int .u8 0) := by kernel_rfl
@[simp, go_sem] theorem PZ165_136 : PZ165[136]? = some (.int .u8 0) := by kernel_rfl
@[simp, go_sem] theorem PZ165_137 : PZ165[137]? = some (.int .u8 0) := by kernel_rfl
@[simp, go_sem] theorem PZ165_138 : PZ165[138]? = some (.int .u8 0) := by kernel_rfl
@[simp, go_sem] theorem PZ165_139 : PZ165[139]? = some (.int .u8 0) := by kernel_rfl
@[simp, go_sem] theorem PZ165_140 : PZ165[140]? = some (.int .u8 0) := by kernel_rfl
@[simp, go_sem] theorem PZ165_141 : PZ165[141]? = some (.int .u8 0) := by kernel_rfl
@[simp, go_sem] theorem PZ165_142 : PZ165[142]? = some (.int .u8 0) := by kernel_rfl
@[simp, go_sem] theorem PZ165_143 : PZ165[143]? = some (.int .u8 0) := by kernel_rfl
@[simp, go_sem] theorem PZ165_144 : PZ165[144]? = some (.int .u8 0) := by kernel_rfl
@[simp, go_sem] theorem PZ165_145 : PZ165[145]? = some (.int .u8 0) := by kernel_rfl
@[simp, go_sem] theorem PZ165_146 : PZ165[146]? = some (.int .u8 0) := by kernel_rfl
@[simp, go_sem] theorem PZ165_147 : PZ165[147]? = some (.int .u8 0) := by kernel_rfl
@[simp, go_sem] theorem PZ165_148 : PZ165[148]? = some (.int .u8 0) := by kernel_rfl
@[simp, go_sem] theorem PZ165_149 : PZ165[149]? = some (.int .u8 0) := by kernel_rfl
@[simp, go_sem] theorem PZ165_150 : PZ165[150]? = some (.int .u8 0) := by kernel_rfl
@[simp, go_sem] theorem PZ165_151 : PZ165[151]? = some (.map none) := by kernel_rfl
@[simp, go_sem] theorem PZ165_152 : PZ165[152]? = some (.map none) := by kernel_rfl
@[simp, go_sem] theorem PZ165_153 : PZ165[153]? = some (.map none) := by kernel_rfl
@[simp, go_sem] theorem PZ165_154 : PZ165[154]? = some (.slice none 0 0) := by kernel_rfl
@[simp, go_sem] theorem PZ165_155 : PZ165[155]? = some (.map none) := by kernel_rfl
@[simp, go_sem] theorem PZ165_156 : PZ165[156]? = some (.map none) := by kernel_rfl
@[simp, go_sem] theorem PZ165_157 : PZ165[157]? = some (.map none) := by kernel_rfl
@[simp, go_sem] theorem PZ165_158 : PZ165[158]? = some (.map none) := by kernel_rfl
@[simp, go_sem] theorem PZ165_159 : PZ165[159]? = some (.nilIface) := by kernel_rfl
@[simp, go_sem] theorem PZ165_160 : PZ165[160]? = some (.nilIface) := by kernel_rfl
@[simp, go_sem] theorem PZ165_161 : PZ165[161]? = some (.map none) := by kernel_rfl
@[simp, go_sem] theorem PZ165_162 : PZ165[162]? = some (.map none) := by kernel_rfl
@[simp, go_sem] theorem PZ165_163 : PZ165[163]? = some (.map none) := by kernel_rfl
@[simp, go_sem] theorem PZ165_164 : PZ165[164]? = some (.map none) := by kernel_rfl
@[simp, go_sem] theorem PZ165_165 : PZ165[165]? = some (.map none) := by kernel_rfl
@[simp, go_sem] theorem PZ165_166 : PZ165[166]? = some (.nilIface) := by kernel_rfl
@[simp, go_sem] theorem PZ165_167 : PZ165[167]? = some (.pointer none) := by kernel_rfl
@[simp, go_sem] theorem PZ165_168 : PZ165[168]? = some (.pointer none) := by kernel_rfl
@[simp, go_sem] theorem PZ165_169 : PZ165[169]? = some (.slice none 0 0) := by kernel_rfl
@[simp, go_sem] theorem PZ165_170 : PZ165[170]? = some (.slice none 0 0) := by kernel_rfl
@[simp, go_sem] theorem PZ165_171 : PZ165[171]? = some (.map none) := by kernel_rfl
@[simp, go_sem] theorem PZ165_172 : PZ165[172]? = some (.map none) := by kernel_rfl
@[simp, go_sem] theorem PZ165_173 : PZ165[173]? = some (.map none) := by kernel_rfl
@[simp, go_sem] theorem PZ165_174 : PZ165[174]? = some (.map none) := by kernel_rfl
@[simp, go_sem] theorem PZ165_175 : PZ165[175]? = some (.map none) := by kernel_rfl
@[simp, go_sem] theorem PZ165_176 : PZ165[176]? = some (.map none) := by kernel_rfl
@[simp, go_sem] theorem PZ165_177 : PZ165[177]? = some (.slice none 0 0) := by kernel_rfl
@[simp, go_sem] theorem PZ165_178 : PZ165[178]? = some (.string ⟨#[]⟩) := by kernel_rfl
@[simp, go_sem] theorem PZ165_179 : PZ165[179]? = some (.nilIface) := by kernel_rfl
@[simp, go_sem] theorem PZ165_180 : PZ165[180]? = some (.nilIface) := by kernel_rfl
@[simp, go_sem] theorem PZ165_181 : PZ165[181]? = some (.nilIface) := by kernel_rfl
@[simp, go_sem] theorem PZ165_182 : PZ165[182]? = some (.nilIface) := by kernel_rfl
@[simp, go_sem] theorem PZ165_183 : PZ165[183]? = some (.nilIface) := by kernel_rfl
@[simp, go_sem] theorem PZ165_184 : PZ165[184]? = some (.nilIface) := by kernel_rfl
@[simp, go_sem] theorem PZ165_185 : PZ165[185]? = some (.nilIface) := by kernel_rfl
@[simp, go_sem] theorem PZ165_186 : PZ165[186]? = some (.nilIface) := by kernel_rfl
@[simp, go_sem] theorem PZ165_187 : PZ165[187]? = some (.pointer none) := by kernel_rfl
@[simp, go_sem] theorem PZ165_188 : PZ165[188]? = some (.nilIface) := by kernel_rfl
@[simp, go_sem] theorem PZ165_189 : PZ165[189]? = some (.int .i32 0) := by kernel_rfl
@[simp, go_sem] theorem PZ165_190 : PZ165[190]? = some (.map none) := by kernel_rfl
@[simp, go_sem] theorem PZ165_191 : PZ165[191]? = some (.nilIface) := by kernel_rfl
@[simp, go_sem] theorem PZ165_192 : PZ165[192]? = some (.nilIface) := by kernel_rfl
@[simp, go_sem] theorem PZ165_193 : PZ165[193]? = some (.int .i32 0) := by kernel_rfl
@[simp, go_sem] theorem PZ165_194 : PZ165[194]? = some (.bool false) := by kernel_rfl
@[simp, go_sem] theorem PZ165_195 : PZ165[195]? = some (.bool false) := by kernel_rfl
@[simp, go_sem] theorem PZ165_196 : PZ165[196]? = some (.slice none 0 0) := by kernel_rfl
@[simp, go_sem] theorem PZ165_197 : PZ165[197]? = some (.map none) := by kernel_rfl
@[simp, go_sem] theorem PZ165_198 : PZ165[198]? = some (.slice none 0 0) := by kernel_rfl
@[simp, go_sem] theorem PZ165_199 : PZ165[199]? = some (.slice none 0 0) := by kernel_rfl
@[simp, go_sem] theorem PZ165_200 : PZ165[200]? = some (.slice none 0 0) := by kernel_rfl
@[simp, go_sem] theorem PZ165_201 : PZ165[201]? = some (.slice none 0 0) := by kernel_rfl
@[simp, go_sem] theorem PZ165_202 : PZ165[202]? = some (.slice none 0 0) := by kernel_rfl
@[simp, go_sem] theorem PZ165_203 : PZ165[203]? = some (.slice none 0 0) := by kernel_rfl
@[simp, go_sem] theorem PZ165_204 : PZ165[204]? = some (.string ⟨#[]⟩) := by kernel_rfl
@[simp, go_sem] theorem PZ165_205 : PZ165[205]? = some (.int .u32 0) := by kernel_rfl
@[simp, go_sem] theorem PZ165_206 : PZ165[206]? = some (.nilFunc) := by kernel_rfl
@[simp, go_sem] theorem PZ165_207 : PZ165[207]? = some (.nilFunc) := by kernel_rfl
@[simp, go_sem] theorem PZ165_208 : PZ165[208]? = some (.nilFunc) := by kernel_rfl
@[simp, go_sem] theorem PZ165_209 : PZ165[209]? = some (.nilFunc) := by kernel_rfl
@[simp, go_sem] theorem PZ165_210 : PZ165[210]? = some (.int .i8 0) := by kernel_rfl
@[simp, go_sem] theorem PZ165_211 : PZ165[211]? = some (.map none) := by kernel_rfl
@[simp, go_sem] theorem PZ165_212 : PZ165[212]? = some (.string ⟨#[]⟩) := by kernel_rfl
@[simp, go_sem] theorem PZ165_213 : PZ165[213]? = some (.string ⟨#[]⟩) := by kernel_rfl
@[simp, go_sem] theorem PZ165_214 : PZ165[214]? = some (.string ⟨#[]⟩) := by kernel_rfl
@[simp, go_sem] theorem PZ165_215 : PZ165[215]? = some (.string ⟨#[]⟩) := by kernel_rfl
@[simp, go_sem] theorem PZ165_216 : PZ165[216]? = some (.string ⟨#[]⟩) := by kernel_rfl
@[simp, go_sem] theorem PZ165_217 : PZ165[217]? = some (.string ⟨#[]⟩) := by kernel_rfl
@[simp, go_sem] theorem PZ165_218 : PZ165[218]? = some (.string ⟨#[]⟩) := by kernel_rfl
@[simp, go_sem] theorem PZ165_219 : PZ165[219]? = some (.string ⟨#[]⟩) := by kernel_rfl
@[simp, go_sem] theorem PZ165_220 : PZ165[220]? = some (.int .u8 0) := by kernel_rfl
@[simp, go_sem] theorem PZ165_221 : PZ165[221]? = some (.int .u32 0) := by kernel_rfl
@[simp, go_sem] theorem PZ165_222 : PZ165[222]? = some (.string ⟨#[]⟩) := by kernel_rfl
@[simp, go_sem] theorem PZ165_223 : PZ165[223]? = some (.int .i32 0) := by kernel_rfl
@[simp, go_sem] theorem PZ165_224 : PZ165[224]? = some (.int .i32 0) := by kernel_rfl
@[simp, go_sem] theorem PZ165_225 : PZ165[225]? = some (.string ⟨#[]⟩) := by kernel_rfl
@[simp, go_sem] theorem PZ165_226 : PZ165[226]? = some (.int .i32 0) := by kernel_rfl
@[simp, go_sem] theorem PZ165_227 : PZ165[227]? = some (.int .i32 0) := by kernel_rfl
@[simp, go_sem] theorem PZ165_228 : PZ165[228]? = some (.string ⟨#[]⟩) := by kernel_rfl
@[simp, go_sem] theorem PZ165_229 : PZ165[229]? = some (.int .i32 0) := by kernel_rfl
@[simp, go_sem] theorem PZ165_230 : PZ165[230]? = some (.int .i32 0) := by kernel_rfl
@[simp, go_sem] theorem PZ165_231 : PZ165[231]? = some (.string ⟨#[]⟩) := by kernel_rfl
@[simp, go_sem] theorem PZ165_232 : PZ165[232]? = some (.int .i32 0) := by kernel_rfl
@[simp, go_sem] theorem PZ165_233 : PZ165[233]? = some (.int .i32 0) := by kernel_rfl
@[simp, go_sem] theorem PZ165_234 : PZ165[234]? = some (.string ⟨#[]⟩) := by kernel_rfl
@[simp, go_sem] theorem PZ165_235 : PZ165[235]? = some (.int .i32 0) := by kernel_rfl
@[simp, go_sem] theorem PZ165_236 : PZ165[236]? = some (.int .i32 0) := by kernel_rfl
@[simp, go_sem] theorem PZ165_237 : PZ165[237]? = some (.string ⟨#[]⟩) := by kernel_rfl
@[simp, go_sem] theorem PZ165_238 : PZ165[238]? = some (.slice none 0 0) := by kernel_rfl
@[simp, go_sem] theorem PZ165_239 : PZ165[239]? = some (.string ⟨#[]⟩) := by kernel_rfl
@[simp, go_sem] theorem PZ165_240 : PZ165[240]? = some (.string ⟨#[]⟩) := by kernel_rfl
@[simp, go_sem] theorem PZ165_241 : PZ165[241]? = some (.string ⟨#[]⟩) := by kernel_rfl
@[simp, go_sem] theorem PZ165_242 : PZ165[242]? = some (.string ⟨#[]⟩) := by kernel_rfl
@[simp, go_sem] theorem PZ165_243 : PZ165[243]? = some (.string ⟨#[]⟩) := by kernel_rfl
@[simp, go_sem] theorem PZ165_244 : PZ165[244]? = some (.int .i32 0) := by kernel_rfl
@[simp, go_sem] theorem PZ165_245 : PZ165[245]? = some (.int .i32 0) := by kernel_rfl
@[simp, go_sem] theorem PZ165_246 : PZ165[246]? = some (.int .i32 0) := by kernel_rfl
@[simp, go_sem] theorem PZ165_247 : PZ165[247]? = some (.int .i32 0) := by kernel_rfl
@[simp, go_sem] theorem PZ165_248 : PZ165[248]? = some (.bool false) := by kernel_rfl
@[simp, go_sem] theorem PZ165_249 : PZ165[249]? = some (.bool false) := by kernel_rfl
@[simp, go_sem] theorem PZ165_250 : PZ165[250]? = some (.bool false) := by kernel_rfl
@[simp, go_sem] theorem PZ165_251 : PZ165[251]? = some (.int .i64 0) := by kernel_rfl
@[simp, go_sem] theorem PZ165_252 : PZ165[252]? = some (.float .f64 0) := by kernel_rfl
@[simp, go_sem] theorem PZ165_253 : PZ165[253]? = some (.int .i64 0) := by kernel_rfl
@[simp, go_sem] theorem PZ165_254 : PZ165[254]? = some (.int .i64 0) := by kernel_rfl
@[simp, go_sem] theorem PZ165_255 : PZ165[255]? = some (.int .i64 0) := by kernel_rfl
@[simp, go_sem] theorem PZ165_256 : PZ165[256]? = some (.int .i64 0) := by kernel_rfl
@[simp, go_sem] theorem PZ165_257 : PZ165[257]? = some (.int .i64 0) := by kernel_rfl
@[simp, go_sem] theorem PZ165_258 : PZ165[258]? = some (.int .i32 0) := by kernel_rfl
@[simp, go_sem] theorem PZ165_259 : PZ165[259]? = some (.int .i32 0) := by kernel_rfl
@[simp, go_sem] theorem PZ165_260 : PZ165[260]? = some (.int .i32 0) := by kernel_rfl
@[simp, go_sem] theorem PZ165_261 : PZ165[261]? = some (.int .i32 0) := by kernel_rfl
@[simp, go_sem] theorem PZ165_262 : PZ165[262]? = some (.int .i32 0) := by kernel_rfl
@[simp, go_sem] theorem PZ165_263 : PZ165[263]? = some (.int .i32 0) := by kernel_rfl
@[simp, go_sem] theorem PZ165_264 : PZ165[264]? = some (.int .i32 0) := by kernel_rfl
@[simp, go_sem] theorem PZ165_265 : PZ165[265]? = some (.int .i32 0) := by kernel_rfl
@[simp, go_sem] theorem PZ165_266 : PZ165[266]? = some (.int .i32 0) := by kernel_rfl
@[simp, go_sem] theorem PZ165_267 : PZ165[267]? = some (.int .i32 0) := by kernel_rfl
@[simp, go_sem] theorem PZ165_268 : PZ165[268]? = some (.int .i32 0) := by kernel_rfl
@[simp, go_sem] theorem PZ165_269 : PZ165[269]? = some (.int .u8 0) := by kernel_rfl
@[simp, go_sem] theorem PZ165_270 : PZ165[270]? = some (.int .u8 0) := by kernel_rfl
@[simp, go_sem] theorem PZ165_271 : PZ165[271]? = some (.int .u8 0) := by kernel_rfl
@[simp, go_sem] theorem PZ165_272 : PZ165[272]? = some (.int .u8 0) := by kernel_rfl
@[simp, go_sem] theorem PZ165_273 : PZ165[273]? = some (.int .u8 0) := by kernel_rfl
@[simp, go_sem] theorem PZ165_274 : PZ165[274]? = some (.int .u8 0) := by kernel_rfl
@[simp, go_sem] theorem PZ165_275 : PZ165[275]? = some (.int .u8 0) := by kernel_rfl
@[simp, go_sem] theorem PZ165_276 : PZ165[276]? = some (.int .u8 0) := by kernel_rfl
@[simp, go_sem] theorem PZ165_277 : PZ165[277]? = some (.bool false) := by kernel_rfl
@[simp, go_sem] theorem PZ165_278 : PZ165[278]? = some (.bool false) := by kernel_rfl
@[simp, go_sem] theorem PZ165_279 : PZ165[279]? = some (.bool false) := by kernel_rfl
@[simp, go_sem] theorem PZ165_280 : PZ165[280]? = some (.int .u8 0) := by kernel_rfl
@[simp, go_sem] theorem PZ165_281 : PZ165[281]? = some (.bool false) := by kernel_rfl
@[simp, go_sem] theorem PZ165_282 : PZ165[282]? = some (.bool false) := by kernel_rfl
@[simp, go_sem] theorem PZ165_283 : PZ165[283]? = some (.bool false) := by kernel_rfl
@[simp, go_sem] theorem PZ165_284 : PZ165[284]? = some (.bool false) := by kernel_rfl
@[simp, go_sem] theorem PZ165_285 : PZ165[285]? = some (.bool false) := by kernel_rfl
@[simp, go_sem] theorem PZ165_286 : PZ165[286]? = some (.int .i64 0) := by kernel_rfl
@[simp, go_sem] theorem PZ165_287 : PZ165[287]? = some (.int .i64 0) := by kernel_rfl
@[simp, go_sem] theorem PZ165_288 : PZ165[288]? = some (.int .i64 0) := by kernel_rfl
@[simp, go_sem] theorem PZ165_289 : PZ165[289]? = some (.int .i64 0) := by kernel_rfl
@[simp, go_sem] theorem PZ165_290 : PZ165[290]? = some (.int .i64 0) := by kernel_rfl
@[simp, go_sem] theorem PZ165_291 : PZ165[291]? = some (.int .i64 0) := by kernel_rfl
@[simp, go_sem] theorem PZ165_292 : PZ165[292]? = some (.int .u32 0) := by kernel_rfl
@[simp, go_sem] theorem PZ165_293 : PZ165[293]? = some (.int .u32 0) := by kernel_rfl
@[simp, go_sem] theorem PZ165_294 : PZ165[294]? = some (.int .u32 0) := by kernel_rfl
@[simp, go_sem] theorem PZ165_295 : PZ165[295]? = some (.int .u32 0) := by kernel_rfl
@[simp, go_sem] theorem PZ165_296 : PZ165[296]? = some (.int .u32 0) := by kernel_rfl
@[simp, go_sem] theorem PZ165_297 : PZ165[297]? = some (.int .u32 0) := by kernel_rfl
@[simp, go_sem] theorem PZ165_298 : PZ165[298]? = some (.int .u32 0) := by kernel_rfl
@[simp, go_sem] theorem PZ165_299 : PZ165[299]? = some (.int .u32 0) := by kernel_rfl
@[simp, go_sem] theorem PZ165_300 : PZ165[300]? = some (.int .u32 0) := by kernel_rfl
@[simp, go_sem] theorem PZ165_301 : PZ165[301]? = some (.int .u32 0) := by kernel_rfl
@[simp, go_sem] theorem PZ165_302 : PZ165[302]? = some (.int .u32 0) := by kernel_rfl
@[simp, go_sem] theorem PZ165_303 : PZ165[303]? = some (.int .u32 0) := by kernel_rfl
@[simp, go_sem] theorem PZ165_304 : PZ165[304]? = some (.int .u32 0) := by kernel_rfl
@[simp, go_sem] theorem PZ165_305 : PZ165[305]? = some (.int .u32 0) := by kernel_rfl
@[simp, go_sem] theorem PZ165_306 : PZ165[306]? = some (.int .u32 0) := by kernel_rfl
@[simp, go_sem] theorem PZ165_307 : PZ165[307]? = some (.int .u32 0) := by kernel_rfl
@[simp, go_sem] theorem PZ165_308 : PZ165[308]? = some (.map none) := by kernel_rfl
@[simp, go_sem] theorem PZ165_309 : PZ165[309]? = some (.map none) := by kernel_rfl
@[simp, go_sem] theorem PZ165_310 : PZ165[310]? = some (.int .u32 0) := by kernel_rfl
@[simp, go_sem] theorem PZ165_311 : PZ165[311]? = some (.int .u32 0) := by kernel_rfl
@[simp, go_sem] theorem PZ165_312 : PZ165[312]? = some (.int .u32 0) := by kernel_rfl
@[simp, go_sem] theorem PZ165_313 : PZ165[313]? = some (.int .u32 0) := by kernel_rfl
@[simp, go_sem] theorem PZ165_314 : PZ165[314]? = some (.int .i32 0) := by kernel_rfl
@[simp, go_sem] theorem PZ165_315 : PZ165[315]? = some (.int .i32 0) := by kernel_rfl
@[simp, go_sem] theorem PZ165_316 : PZ165[316]? = some (.int .i32 0) := by kernel_rfl
@[simp, go_sem] theorem PZ165_317 : PZ165[317]? = some (.int .i32 0) := by kernel_rfl
@[simp, go_sem] theorem PZ165_318 : PZ165[318]? = some (.int .i32 0) := by kernel_rfl
@[simp, go_sem] theorem PZ165_319 : PZ165[319]? = some (.int .i32 0) := by kernel_rfl
@[simp, go_sem] theorem PZ165_320 : PZ165[320]? = some (.int .i32 0) := by kernel_rfl
@[simp, go_sem] theorem PZ165_321 : PZ165[321]? = some (.int .i32 0) := by kernel_rfl
@[simp, go_sem] theorem PZ165_322 : PZ165[322]? = some (.int .i32 0) := by kernel_rfl
@[simp, go_sem] theorem PZ165_323 : PZ165[323]? = some (.int .i32 0) := by kernel_rfl
@[simp, go_sem] theorem PZ165_324 : PZ165[324]? = some (.int .i32 0) := by kernel_rfl
@[simp, go_sem] theorem PZ165_325 : PZ165[325]? = some (.int .i32 0) := by kernel_rfl
@[simp, go_sem] theorem PZ165_326 : PZ165[326]? = some (.int .i32 0) := by kernel_rfl
@[simp, go_sem] theorem PZ165_327 : PZ165[327]? = some (.int .i32 0) := by kernel_rfl
@[simp, go_sem] theorem PZ165_328 : PZ165[328]? = some (.int .i32 0) := by kernel_rfl
@[simp, go_sem] theorem PZ165_329 : PZ165[329]? = some (.int .i32 0) := by kernel_rfl
@[simp, go_sem] theorem PZ165_330 : PZ165[330]? = some (.int .i32 0) := by kernel_rfl
@[simp, go_sem] theorem PZ165_331 : PZ165[331]? = some (.bool false) := by kernel_rfl
@[simp, go_sem] theorem PZ165_332 : PZ165[332]? = some (.bool false) := by kernel_rfl
@[simp, go_sem] theorem PZ165_333 : PZ165[333]? = some (.bool false) := by kernel_rfl
@[simp, go_sem] theorem PZ165_334 : PZ165[334]? = some (.bool false) := by kernel_rfl
@[simp, go_sem] theorem PZ165_335 : PZ165[335]? = some (.bool false) := by kernel_rfl
@[simp, go_sem] theorem PZ165_336 : PZ165[336]? = some (.bool false) := by kernel_rfl
@[simp, go_sem] theorem PZ165_337 : PZ165[337]? = some (.bool false) := by kernel_rfl
@[simp, go_sem] theorem PZ165_338 : PZ165[338]? = some (.bool false) := by kernel_rfl
@[simp, go_sem] theorem PZ165_339 : PZ165[339]? = some (.int .i64 0) := by kernel_rfl
@[simp, go_sem] theorem PZ165_340 : PZ165[340]? = some (.int .i32 0) := by kernel_rfl
@[simp, go_sem] theorem PZ165_341 : PZ165[341]? = some (.bool false) := by kernel_rfl
@[simp, go_sem] theorem PZ165_342 : PZ165[342]? = some (.bool false) := by kernel_rfl
@[simp, go_sem] theorem PZ165_343 : PZ165[343]? = some (.bool false) := by kernel_rfl
@[simp, go_sem] theorem PZ165_344 : PZ165[344]? = some (.bool false) := by kernel_rfl
@[simp, go_sem] theorem PZ165_345 : PZ165[345]? = some (.bool false) := by kernel_rfl
@[simp, go_sem] theorem PZ165_346 : PZ165[346]? = some (.bool false) := by kernel_rfl
@[simp, go_sem] theorem PZ165_347 : PZ165[347]? = some (.bool false) := by kernel_rfl
@[simp, go_sem] theorem PZ165_348 : PZ165[348]? = some (.bool false) := by kernel_rfl
@[simp, go_sem] theorem PZ165_349 : PZ165[349]? = some (.bool false) := by kernel_rfl
@[simp, go_sem] theorem PZ165_350 : PZ165[350]? = some (.bool false) := by kernel_rfl
@[simp, go_sem] theorem PZ165_351 : PZ165[351]? = some (.bool false) := by kernel_rfl
@[simp, go_sem] theorem PZ165_352 : PZ165[352]? = some (.bool false) := by kernel_rfl
@[go_sem ↓] theorem fa165_0 (b o : Nat) (w : World) : (Instr.fieldAt 165 (.pointer (some ⟨b, o, none⟩)) 0).run Try.prog w = .ok (.pointer (some ⟨b, o, none⟩)) w := by kernel_rfl
@[go_sem ↓] theorem fa165_1 (b o : Nat) (w : World) : (Instr.fieldAt 165 (.pointer (some ⟨b, o, none⟩)) 1).run Try.prog w = .ok (.pointer (some ⟨b, o + 51, none⟩)) w := by kernel_rfl
@[go_sem ↓] theorem fa165_2 (b o : Nat) (w : World) : (Instr.fieldAt 165 (.pointer (some ⟨b, o, none⟩)) 2).run Try.prog w = .ok (.pointer (some ⟨b, o + 57, none⟩)) w := by kernel_rfl
@[go_sem ↓] theorem fa165_3 (b o : Nat) (w : World) : (Instr.fieldAt 165 (.pointer (some ⟨b, o, none⟩)) 3).run Try.prog w = .ok (.pointer (some ⟨b, o + 67, none⟩)) w := by kernel_rfl
@[go_sem ↓] theorem fa165_4 (b o : Nat) (w : World) : (Instr.fieldAt 165 (.pointer (some ⟨b, o, none⟩)) 4).run Try.prog w = .ok (.pointer (some ⟨b, o + 77, none⟩)) w := by kernel_rfl
@[go_sem ↓] theorem fa165_5 (b o : Nat) (w : World) : (Instr.fieldAt 165 (.pointer (some ⟨b, o, none⟩)) 5).run Try.prog w = .ok (.pointer (some ⟨b, o + 92, none⟩)) w := by kernel_rfl
@[go_sem ↓] theorem fa165_6 (b o : Nat) (w : World) : (Instr.fieldAt 165 (.pointer (some ⟨b, o, none⟩)) 6).run Try.prog w = .ok (.pointer (some ⟨b, o + 103, none⟩)) w := by kernel_rfl
@[go_sem ↓] theorem fa165_7 (b o : Nat) (w : World) : (Instr.fieldAt 165 (.pointer (some ⟨b, o, none⟩)) 7).run Try.prog w = .ok (.pointer (some ⟨b, o + 104, none⟩)) w := by kernel_rfl
@[go_sem ↓] theorem fa165_8 (b o : Nat) (w : World) : (Instr.fieldAt 165 (.pointer (some ⟨b, o, none⟩)) 8).run Try.prog w = .ok (.pointer (some ⟨b, o + 105, none⟩)) w := by kernel_rfl
@[go_sem ↓] theorem fa165_9 (b o : Nat) (w : World) : (Instr.fieldAt 165 (.pointer (some ⟨b, o, none⟩)) 9).run Try.prog w = .ok (.pointer (some ⟨b, o + 106, none⟩)) w := by kernel_rfl
@[go_sem ↓] theorem fa165_10 (b o : Nat) (w : World) : (Instr.fieldAt 165 (.pointer (some ⟨b, o, none⟩)) 10).run Try.prog w = .ok (.pointer (some ⟨b, o + 107, none⟩)) w := by kernel_rfl
@[go_sem ↓] theorem fa165_11 (b o : Nat) (w : World) : (Instr.fieldAt 165 (.pointer (some ⟨b, o, none⟩)) 11).run Try.prog w = .ok (.pointer (some ⟨b, o + 108, none⟩)) w := by kernel_rfl
@[go_sem ↓] theorem fa165_12 (b o : Nat) (w : World) : (Instr.fieldAt 165 (.pointer (some ⟨b, o, none⟩)) 12).run Try.prog w = .ok (.pointer (some ⟨b, o + 109, none⟩)) w := by kernel_rfl
@[go_sem ↓] theorem fa165_13 (b o : Nat) (w : World) : (Instr.fieldAt 165 (.pointer (some ⟨b, o, none⟩)) 13).run Try.prog w = .ok (.pointer (some ⟨b, o + 110, none⟩)) w := by kernel_rfl
@[go_sem ↓] theorem fa165_14 (b o : Nat) (w : World) : (Instr.fieldAt 165 (.pointer (some ⟨b, o, none⟩)) 14).run Try.prog w = .ok (.pointer (some ⟨b, o + 111, none⟩)) w := by kernel_rfl
@[go_sem ↓] theorem fa165_15 (b o : Nat) (w : World) : (Instr.fieldAt 165 (.pointer (some ⟨b, o, none⟩)) 15).run Try.prog w = .ok (.pointer (some ⟨b, o + 112, none⟩)) w := by kernel_rfl
@[go_sem ↓] theorem fa165_16 (b o : Nat) (w : World) : (Instr.fieldAt 165 (.pointer (some ⟨b, o, none⟩)) 16).run Try.prog w = .ok (.pointer (some ⟨b, o + 113, none⟩)) w := by kernel_rfl
@[go_sem ↓] theorem fa165_17 (b o : Nat) (w : World) : (Instr.fieldAt 165 (.pointer (some ⟨b, o, none⟩)) 17).run Try.prog w = .ok (.pointer (some ⟨b, o + 114, none⟩)) w := by kernel_rfl
@[go_sem ↓] theorem fa165_18 (b o : Nat) (w : World) : (Instr.fieldAt 165 (.pointer (some ⟨b, o, none⟩)) 18).run Try.prog w = .ok (.pointer (some ⟨b, o + 115, none⟩)) w := by kernel_rfl
@[go_sem ↓] theorem fa165_19 (b o : Nat) (w : World) : (Instr.fieldAt 165 (.pointer (some ⟨b, o, none⟩)) 19).run Try.prog w = .ok (.pointer (some ⟨b, o + 116, none⟩)) w := by kernel_rfl
@[go_sem ↓] theorem fa165_20 (b o : Nat) (w : World) : (Instr.fieldAt 165 (.pointer (some ⟨b, o, none⟩)) 20).run Try.prog w = .ok (.pointer (some ⟨b, o + 117, none⟩)) w := by kernel_rfl
@[go_sem ↓] theorem fa165_21 (b o : Nat) (w : World) : (Instr.fieldAt 165 (.pointer (some ⟨b, o, none⟩)) 21).run Try.prog w = .ok (.pointer (some ⟨b, o + 118, none⟩)) w := by kernel_rfl
@[go_sem ↓] theorem fa165_22 (b o : Nat) (w : World) : (Instr.fieldAt 165 (.pointer (some ⟨b, o, none⟩)) 22).run Try.prog w = .ok (.pointer (some ⟨b, o + 151, none⟩)) w := by kernel_rfl
@[go_sem ↓] theorem fa165_23 (b o : Nat) (w : World) : (Instr.fieldAt 165 (.pointer (some ⟨b, o, none⟩)) 23).run Try.prog w = .ok (.pointer (some ⟨b, o + 152, none⟩)) w := by kernel_rfl
@[go_sem ↓] theorem fa165_24 (b o : Nat) (w : World) : (Instr.fieldAt 165 (.pointer (some ⟨b, o, none⟩)) 24).run Try.prog w = .ok (.pointer (some ⟨b, o + 153, none⟩)) w := by kernel_rfl
@[go_sem ↓] theorem fa165_25 (b o : Nat) (w : World) : (Instr.fieldAt 165 (.pointer (some ⟨b, o, none⟩)) 25).run Try.prog w = .ok (.pointer (some ⟨b, o + 154, none⟩)) w := by kernel_rfl
@[go_sem ↓] theorem fa165_26 (b o : Nat) (w : World) : (Instr.fieldAt 165 (.pointer (some ⟨b, o, none⟩)) 26).run Try.prog w = .ok (.pointer (some ⟨b, o + 155, none⟩)) w := by kernel_rfl
@[go_sem ↓] theorem fa165_27 (b o : Nat) (w : World) : (Instr.fieldAt 165 (.pointer (some ⟨b, o, none⟩)) 27).run Try.prog w = .ok (.pointer (some ⟨b, o + 156, none⟩)) w := by kernel_rfl
@[go_sem ↓] theorem fa165_28 (b o : Nat) (w : World) : (Instr.fieldAt 165 (.pointer (some ⟨b, o, none⟩)) 28).run Try.prog w = .ok (.pointer (some ⟨b, o + 157, none⟩)) w := by kernel_rfl
@[go_sem ↓] theorem fa165_29 (b o : Nat) (w : World) : (Instr.fieldAt 165 (.pointer (some ⟨b, o, none⟩)) 29).run Try.prog w = .ok (.pointer (some ⟨b, o + 158, none⟩)) w := by kernel_rfl
@[go_sem ↓] theorem fa165_30 (b o : Nat) (w : World) : (Instr.fieldAt 165 (.pointer (some ⟨b, o, none⟩)) 30).run Try.prog w = .ok (.pointer (some ⟨b, o + 159, none⟩)) w := by kernel_rfl
@[go_sem ↓] theorem fa165_31 (b o : Nat) (w : World) : (Instr.fieldAt 165 (.pointer (some ⟨b, o, none⟩)) 31).run Try.prog w = .ok (.pointer (some ⟨b, o + 160, none⟩)) w := by kernel_rfl
@[go_sem ↓] theorem fa165_32 (b o : Nat) (w : World) : (Instr.fieldAt 165 (.pointer (some ⟨b, o, none⟩)) 32).run Try.prog w = .ok (.pointer (some ⟨b, o + 161, none⟩)) w := by kernel_rfl
@[go_sem ↓] theorem fa165_33 (b o : Nat) (w : World) : (Instr.fieldAt 165 (.pointer (some ⟨b, o, none⟩)) 33).run Try.prog w = .ok (.pointer (some ⟨b, o + 162, none⟩)) w := by kernel_rfl
@[go_sem ↓] theorem fa165_34 (b o : Nat) (w : World) : (Instr.fieldAt 165 (.pointer (some ⟨b, o, none⟩)) 34).run Try.prog w = .ok (.pointer (some ⟨b, o + 163, none⟩)) w := by kernel_rfl
@[go_sem ↓] theorem fa165_35 (b o : Nat) (w : World) : (Instr.fieldAt 165 (.pointer (some ⟨b, o, none⟩)) 35).run Try.prog w = .ok (.pointer (some ⟨b, o + 164, none⟩)) w := by kernel_rfl
@[go_sem ↓] theorem fa165_36 (b o : Nat) (w : World) : (Instr.fieldAt 165 (.pointer (some ⟨b, o, none⟩)) 36).run Try.prog w = .ok (.pointer (some ⟨b, o + 165, none⟩)) w := by kernel_rfl
@[go_sem ↓] theorem fa165_37 (b o : Nat) (w : World) : (Instr.fieldAt 165 (.pointer (some ⟨b, o, none⟩)) 37).run Try.prog w = .ok (.pointer (some ⟨b, o + 166, none⟩)) w := by kernel_rfl
@[go_sem ↓] theorem fa165_38 (b o : Nat) (w : World) : (Instr.fieldAt 165 (.pointer (some ⟨b, o, none⟩)) 38).run Try.prog w = .ok (.pointer (some ⟨b, o + 167, none⟩)) w := by kernel_rfl
@[go_sem ↓] theorem fa165_39 (b o : Nat) (w : World) : (Instr.fieldAt 165 (.pointer (some ⟨b, o, none⟩)) 39).run Try.prog w = .ok (.pointer (some ⟨b, o + 168, none⟩)) w := by kernel_rfl
@[go_sem ↓] theorem fa165_40 (b o : Nat) (w : World) : (Instr.fieldAt 165 (.pointer (some ⟨b, o, none⟩)) 40).run Try.prog w = .ok (.pointer (some ⟨b, o + 169, none⟩)) w := by kernel_rfl
@[go_sem ↓] theorem fa165_41 (b o : Nat) (w : World) : (Instr.fieldAt 165 (.pointer (some ⟨b, o, none⟩)) 41).run Try.prog w = .ok (.pointer (some ⟨b, o + 170, none⟩)) w := by kernel_rfl
@[go_sem ↓] theorem fa165_42 (b o : Nat) (w : World) : (Instr.fieldAt 165 (.pointer (some ⟨b, o, none⟩)) 42).run Try.prog w = .ok (.pointer (some ⟨b, o + 171, none⟩)) w := by kernel_rfl
@[go_sem ↓] theorem fa165_43 (b o : Nat) (w : World) : (Instr.fieldAt 165 (.pointer (some ⟨b, o, none⟩)) 43).run Try.prog w = .ok (.pointer (some ⟨b, o + 172, none⟩)) w := by kernel_rfl
@[go_sem ↓] theorem fa165_44 (b o : Nat) (w : World) : (Instr.fieldAt 165 (.pointer (some ⟨b, o, none⟩)) 44).run Try.prog w = .ok (.pointer (some ⟨b, o + 173, none⟩)) w := by kernel_rfl
@[go_sem ↓] theorem fa165_45 (b o : Nat) (w : World) : (Instr.fieldAt 165 (.pointer (some ⟨b, o, none⟩)) 45).run Try.prog w = .ok (.pointer (some ⟨b, o + 174, none⟩)) w := by kernel_rfl
@[go_sem ↓] theorem fa165_46 (b o : Nat) (w : World) : (Instr.fieldAt 165 (.pointer (some ⟨b, o, none⟩)) 46).run Try.prog w = .ok (.pointer (some ⟨b, o + 175, none⟩)) w := by kernel_rfl
@[go_sem ↓] theorem fa165_47 (b o : Nat) (w : World) : (Instr.fieldAt 165 (.pointer (some ⟨b, o, none⟩)) 47).run Try.prog w = .ok (.pointer (some ⟨b, o + 176, none⟩)) w := by kernel_rfl
@[go_sem ↓] theorem fa165_48 (b o : Nat) (w : World) : (Instr.fieldAt 165 (.pointer (some ⟨b, o, none⟩)) 48).run Try.prog w = .ok (.pointer (some ⟨b, o + 177, none⟩)) w := by kernel_rfl
@[go_sem ↓] theorem fa165_49 (b o : Nat) (w : World) : (Instr.fieldAt 165 (.pointer (some ⟨b, o, none⟩)) 49).run Try.prog w = .ok (.pointer (some ⟨b, o + 178, none⟩)) w := by kernel_rfl
@[go_sem ↓] theorem fa165_50 (b o : Nat) (w : World) : (Instr.fieldAt 165 (.pointer (some ⟨b, o, none⟩)) 50).run Try.prog w = .ok (.pointer (some ⟨b, o + 179, none⟩)) w := by kernel_rfl
@[go_sem ↓] theorem fa165_51 (b o : Nat) (w : World) : (Instr.fieldAt 165 (.pointer (some ⟨b, o, none⟩)) 51).run Try.prog w = .ok (.pointer (some ⟨b, o + 180, none⟩)) w := by kernel_rfl
@[go_sem ↓] theorem fa165_52 (b o : Nat) (w : World) : (Instr.fieldAt 165 (.pointer (some ⟨b, o, none⟩)) 52).run Try.prog w = .ok (.pointer (some ⟨b, o + 181, none⟩)) w := by kernel_rfl
@[go_sem ↓] theorem fa165_53 (b o : Nat) (w : World) : (Instr.fieldAt 165 (.pointer (some ⟨b, o, none⟩)) 53).run Try.prog w = .ok (.pointer (some ⟨b, o + 182, none⟩)) w := by kernel_rfl
@[go_sem ↓] theorem fa165_54 (b o : Nat) (w : World) : (Instr.fieldAt 165 (.pointer (some ⟨b, o, none⟩)) 54).run Try.prog w = .ok (.pointer (some ⟨b, o + 183, none⟩)) w := by kernel_rfl
@[go_sem ↓] theorem fa165_55 (b o : Nat) (w : World) : (Instr.fieldAt 165 (.pointer (some ⟨b, o, none⟩)) 55).run Try.prog w = .ok (.pointer (some ⟨b, o + 184, none⟩)) w := by kernel_rfl
@[go_sem ↓] theorem fa165_56 (b o : Nat) (w : World) : (Instr.fieldAt 165 (.pointer (some ⟨b, o, none⟩)) 56).run Try.prog w = .ok (.pointer (some ⟨b, o + 185, none⟩)) w := by kernel_rfl
@[go_sem ↓] theorem fa165_57 (b o : Nat) (w : World) : (Instr.fieldAt 165 (.pointer (some ⟨b, o, none⟩)) 57).run Try.prog w = .ok (.pointer (some ⟨b, o + 186, none⟩)) w := by kernel_rfl
@[go_sem ↓] theorem fa165_58 (b o : Nat) (w : World) : (Instr.fieldAt 165 (.pointer (some ⟨b, o, none⟩)) 58).run Try.prog w = .ok (.pointer (some ⟨b, o + 187, none⟩)) w := by kernel_rfl
@[go_sem ↓] theorem fa165_59 (b o : Nat) (w : World) : (Instr.fieldAt 165 (.pointer (some ⟨b, o, none⟩)) 59).run Try.prog w = .ok (.pointer (some ⟨b, o + 188, none⟩)) w := by kernel_rfl
@[go_sem ↓] theorem fa165_60 (b o : Nat) (w : World) : (Instr.fieldAt 165 (.pointer (some ⟨b, o, none⟩)) 60).run Try.prog w = .ok (.pointer (some ⟨b, o + 190, none⟩)) w := by kernel_rfl
@[go_sem ↓] theorem fa165_61 (b o : Nat) (w : World) : (Instr.fieldAt 165 (.pointer (some ⟨b, o, none⟩)) 61).run Try.prog w = .ok (.pointer (some ⟨b, o + 191, none⟩)) w := by kernel_rfl
@[go_sem ↓] theorem fa165_62 (b o : Nat) (w : World) : (Instr.fieldAt 165 (.pointer (some ⟨b, o, none⟩)) 62).run Try.prog w = .ok (.pointer (some ⟨b, o + 192, none⟩)) w := by kernel_rfl
@[go_sem ↓] theorem fa165_63 (b o : Nat) (w : World) : (Instr.fieldAt 165 (.pointer (some ⟨b, o, none⟩)) 63).run Try.prog w = .ok (.pointer (some ⟨b, o + 196, none⟩)) w := by kernel_rfl
@[go_sem ↓] theorem fa165_64 (b o : Nat) (w : World) : (Instr.fieldAt 165 (.pointer (some ⟨b, o, none⟩)) 64).run Try.prog w = .ok (.pointer (some ⟨b, o + 197, none⟩)) w := by kernel_rfl
@[go_sem ↓] theorem fa165_65 (b o : Nat) (w : World) : (Instr.fieldAt 165 (.pointer (some ⟨b, o, none⟩)) 65).run Try.prog w = .ok (.pointer (some ⟨b, o + 198, none⟩)) w := by kernel_rfl
@[go_sem ↓] theorem fa165_66 (b o : Nat) (w : World) : (Instr.fieldAt 165 (.pointer (some ⟨b, o, none⟩)) 66).run Try.prog w = .ok (.pointer (some ⟨b, o + 199, none⟩)) w := by kernel_rfl
@[go_sem ↓] theorem fa165_67 (b o : Nat) (w : World) : (Instr.fieldAt 165 (.pointer (some ⟨b, o, none⟩)) 67).run Try.prog w = .ok (.pointer (some ⟨b, o + 200, none⟩)) w := by kernel_rfl
@[go_sem ↓] theorem fa165_68 (b o : Nat) (w : World) : (Instr.fieldAt 165 (.pointer (some ⟨b, o, none⟩)) 68).run Try.prog w = .ok (.pointer (some ⟨b, o + 201, none⟩)) w := by kernel_rfl
@[go_sem ↓] theorem fa165_69 (b o : Nat) (w : World) : (Instr.fieldAt 165 (.pointer (some ⟨b, o, none⟩)) 69).run Try.prog w = .ok (.pointer (some ⟨b, o + 286, none⟩)) w := by kernel_rfl
@[go_sem ↓] theorem fa165_70 (b o : Nat) (w : World) : (Instr.fieldAt 165 (.pointer (some ⟨b, o, none⟩)) 70).run Try.prog w = .ok (.pointer (some ⟨b, o + 287, none⟩)) w := by kernel_rfl
@[go_sem ↓] theorem fa165_71 (b o : Nat) (w : World) : (Instr.fieldAt 165 (.pointer (some ⟨b, o, none⟩)) 71).run Try.prog w = .ok (.pointer (some ⟨b, o + 288, none⟩)) w := by kernel_rfl
@[go_sem ↓] theorem fa165_72 (b o : Nat) (w : World) : (Instr.fieldAt 165 (.pointer (some ⟨b, o, none⟩)) 72).run Try.prog w = .ok (.pointer (some ⟨b, o + 289, none⟩)) w := by kernel_rfl
@[go_sem ↓] theorem fa165_73 (b o : Nat) (w : World) : (Instr.fieldAt 165 (.pointer (some ⟨b, o, none⟩)) 73).run Try.prog w = .ok (.pointer (some ⟨b, o + 290, none⟩)) w := by kernel_rfl
@[go_sem ↓] theorem fa165_74 (b o : Nat) (w : World) : (Instr.fieldAt 165 (.pointer (some ⟨b, o, none⟩)) 74).run Try.prog w = .ok (.pointer (some ⟨b, o + 291, none⟩)) w := by kernel_rfl
@[go_sem ↓] theorem fa165_75 (b o : Nat) (w : World) : (Instr.fieldAt 165 (.pointer (some ⟨b, o, none⟩)) 75).run Try.prog w = .ok (.pointer (some ⟨b, o + 292, none⟩)) w := by kernel_rfl
@[go_sem ↓] theorem fa165_76 (b o : Nat) (w : World) : (Instr.fieldAt 165 (.pointer (some ⟨b, o, none⟩)) 76).run Try.prog w = .ok (.pointer (some ⟨b, o + 294, none⟩)) w := by kernel_rfl
@[go_sem ↓] theorem fa165_77 (b o : Nat) (w : World) : (Instr.fieldAt 165 (.pointer (some ⟨b, o, none⟩)) 77).run Try.prog w = .ok (.pointer (some ⟨b, o + 296, none⟩)) w := by kernel_rfl
@[go_sem ↓] theorem fa165_78 (b o : Nat) (w : World) : (Instr.fieldAt 165 (.pointer (some ⟨b, o, none⟩)) 78).run Try.prog w = .ok (.pointer (some ⟨b, o + 298, none⟩)) w := by kernel_rfl
@[go_sem ↓] theorem fa165_79 (b o : Nat) (w : World) : (Instr.fieldAt 165 (.pointer (some ⟨b, o, none⟩)) 79).run Try.prog w = .ok (.pointer (some ⟨b, o + 300, none⟩)) w := by kernel_rfl
@[go_sem ↓] theorem fa165_80 (b o : Nat) (w : World) : (Instr.fieldAt 165 (.pointer (some ⟨b, o, none⟩)) 80).run Try.prog w = .ok (.pointer (some ⟨b, o + 302, none⟩)) w := by kernel_rfl
@[go_sem ↓] theorem fa165_81 (b o : Nat) (w : World) : (Instr.fieldAt 165 (.pointer (some ⟨b, o, none⟩)) 81).run Try.prog w = .ok (.pointer (some ⟨b, o + 304, none⟩)) w := by kernel_rfl
@[go_sem ↓] theorem fa165_82 (b o : Nat) (w : World) : (Instr.fieldAt 165 (.pointer (some ⟨b, o, none⟩)) 82).run Try.prog w = .ok (.pointer (some ⟨b, o + 306, none⟩)) w := by kernel_rfl
@[go_sem ↓] theorem fa165_83 (b o : Nat) (w : World) : (Instr.fieldAt 165 (.pointer (some ⟨b, o, none⟩)) 83).run Try.prog w = .ok (.pointer (some ⟨b, o + 308, none⟩)) w := by kernel_rfl
@[go_sem ↓] theorem fa165_84 (b o : Nat) (w : World) : (Instr.fieldAt 165 (.pointer (some ⟨b, o, none⟩)) 84).run Try.prog w = .ok (.pointer (some ⟨b, o + 309, none⟩)) w := by kernel_rfl
@[go_sem ↓] theorem fa165_85 (b o : Nat) (w : World) : (Instr.fieldAt 165 (.pointer (some ⟨b, o, none⟩)) 85).run Try.prog w = .ok (.pointer (some ⟨b, o + 310, none⟩)) w := by kernel_rfl
@[go_sem ↓] theorem fa165_86 (b o : Nat) (w : World) : (Instr.fieldAt 165 (.pointer (some ⟨b, o, none⟩)) 86).run Try.prog w = .ok (.pointer (some ⟨b, o + 312, none⟩)) w := by kernel_rfl
@[go_sem ↓] theorem fa165_87 (b o : Nat) (w : World) : (Instr.fieldAt 165 (.pointer (some ⟨b, o, none⟩)) 87).run Try.prog w = .ok (.pointer (some ⟨b, o + 314, none⟩)) w := by kernel_rfl
@[go_sem ↓] theorem fa165_88 (b o : Nat) (w : World) : (Instr.fieldAt 165 (.pointer (some ⟨b, o, none⟩)) 88).run Try.prog w = .ok (.pointer (some ⟨b, o + 316, none⟩)) w := by kernel_rfl
@[go_sem ↓] theorem fa165_89 (b o : Nat) (w : World) : (Instr.fieldAt 165 (.pointer (some ⟨b, o, none⟩)) 89).run Try.prog w = .ok (.pointer (some ⟨b, o + 318, none⟩)) w := by kernel_rfl
@[go_sem ↓] theorem fa165_90 (b o : Nat) (w : World) : (Instr.fieldAt 165 (.pointer (some ⟨b, o, none⟩)) 90).run Try.prog w = .ok (.pointer (some ⟨b, o + 320, none⟩)) w := by kernel_rfl
@[go_sem ↓] theorem fa165_91 (b o : Nat) (w : World) : (Instr.fieldAt 165 (.pointer (some ⟨b, o, none⟩)) 91).run Try.prog w = .ok (.pointer (some ⟨b, o + 322, none⟩)) w := by kernel_rfl
@[go_sem ↓] theorem fa165_92 (b o : Nat) (w : World) : (Instr.fieldAt 165 (.pointer (some ⟨b, o, none⟩)) 92).run Try.prog w = .ok (.pointer (some ⟨b, o + 324, none⟩)) w := by kernel_rfl
@[go_sem ↓] theorem fa165_93 (b o : Nat) (w : World) : (Instr.fieldAt 165 (.pointer (some ⟨b, o, none⟩)) 93).run Try.prog w = .ok (.pointer (some ⟨b, o + 326, none⟩)) w := by kernel_rfl
@[go_sem ↓] theorem fa165_94 (b o : Nat) (w : World) : (Instr.fieldAt 165 (.pointer (some ⟨b, o, none⟩)) 94).run Try.prog w = .ok (.pointer (some ⟨b, o + 327, none⟩)) w := by kernel_rfl
@[go_sem ↓] theorem fa165_95 (b o : Nat) (w : World) : (Instr.fieldAt 165 (.pointer (some ⟨b, o, none⟩)) 95).run Try.prog w = .ok (.pointer (some ⟨b, o + 328, none⟩)) w := by kernel_rfl
@[go_sem ↓] theorem fa165_96 (b o : Nat) (w : World) : (Instr.fieldAt 165 (.pointer (some ⟨b, o, none⟩)) 96).run Try.prog w = .ok (.pointer (some ⟨b, o + 329, none⟩)) w := by kernel_rfl
@[go_sem ↓] theorem fa165_97 (b o : Nat) (w : World) : (Instr.fieldAt 165 (.pointer (some ⟨b, o, none⟩)) 97).run Try.prog w = .ok (.pointer (some ⟨b, o + 339, none⟩)) w := by kernel_rfl
@[go_sem ↓] theorem fa165_98 (b o : Nat) (w : World) : (Instr.fieldAt 165 (.pointer (some ⟨b, o, none⟩)) 98).run Try.prog w = .ok (.pointer (some ⟨b, o + 340, none⟩)) w := by kernel_rfl
@[go_sem ↓] theorem fa165_99 (b o : Nat) (w : World) : (Instr.fieldAt 165 (.pointer (some ⟨b, o, none⟩)) 99).run Try.prog w = .ok (.pointer (some ⟨b, o + 341, none⟩)) w := by kernel_rfl
@[go_sem ↓] theorem fa165_100 (b o : Nat) (w : World) : (Instr.fieldAt 165 (.pointer (some ⟨b, o, none⟩)) 100).run Try.prog w = .ok (.pointer (some ⟨b, o + 342, none⟩)) w := by kernel_rfl
@[go_sem ↓] theorem fa165_101 (b o : Nat) (w : World) : (Instr.fieldAt 165 (.pointer (some ⟨b, o, none⟩)) 101).run Try.prog w = .ok (.pointer (some ⟨b, o + 343, none⟩)) w := by kernel_rfl
@[go_sem ↓] theorem fa165_102 (b o : Nat) (w : World) : (Instr.fieldAt 165 (.pointer (some ⟨b, o, none⟩)) 102).run Try.prog w = .ok (.pointer (some ⟨b, o + 344, none⟩)) w := by kernel_rfl
@[go_sem ↓] theorem fa165_103 (b o : Nat) (w : World) : (Instr.fieldAt 165 (.pointer (some ⟨b, o, none⟩)) 103).run Try.prog w = .ok (.pointer (some ⟨b, o + 345, none⟩)) w := by kernel_rfl
@[go_sem ↓] theorem fa165_104 (b o : Nat) (w : World) : (Instr.fieldAt 165 (.pointer (some ⟨b, o, none⟩)) 104).run Try.prog w = .ok (.pointer (some ⟨b, o + 346, none⟩)) w := by kernel_rfl
@[go_sem ↓] theorem fa165_105 (b o : Nat) (w : World) : (Instr.fieldAt 165 (.pointer (some ⟨b, o, none⟩)) 105).run Try.prog w = .ok (.pointer (some ⟨b, o + 347, none⟩)) w := by kernel_rfl
@[go_sem ↓] theorem fa165_106 (b o : Nat) (w : World) : (Instr.fieldAt 165 (.pointer (some ⟨b, o, none⟩)) 106).run Try.prog w = .ok (.pointer (some ⟨b, o + 348, none⟩)) w := by kernel_rfl
@[go_sem ↓] theorem fa165_107 (b o : Nat) (w : World) : (Instr.fieldAt 165 (.pointer (some ⟨b, o, none⟩)) 107).run Try.prog w = .ok (.pointer (some ⟨b, o + 349, none⟩)) w := by kernel_rfl
@[go_sem ↓] theorem fa165_108 (b o : Nat) (w : World) : (Instr.fieldAt 165 (.pointer (some ⟨b, o, none⟩)) 108).run Try.prog w = .ok (.pointer (some ⟨b, o + 350, none⟩)) w := by kernel_rfl
@[go_sem ↓] theorem fa165_109 (b o : Nat) (w : World) : (Instr.fieldAt 165 (.pointer (some ⟨b, o, none⟩)) 109).run Try.prog w = .ok (.pointer (some ⟨b, o + 351, none⟩)) w := by kernel_rfl
@[go_sem ↓] theorem fa165_110 (b o : Nat) (w : World) : (Instr.fieldAt 165 (.pointer (some ⟨b, o, none⟩)) 110).run Try.prog w = .ok (.pointer (some ⟨b, o + 352, none⟩)) w := by kernel_rfl

end Go.Proofs.Ytgefhkjidldjlaa
