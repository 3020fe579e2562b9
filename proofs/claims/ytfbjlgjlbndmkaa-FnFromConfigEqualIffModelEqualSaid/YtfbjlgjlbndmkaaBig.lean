/-
  The struct types of many fields: the zero value's cells behind a name, where each field lies, what each zero cell holds.
-/
import Derived.Test.YtfbjlgjlbndmkaaKit
namespace Go.Proofs.Ytfbjlgjlbndmkaa
set_option maxRecDepth 100000

noncomputable def PZ26 : Array Value := match (Try.prog.info? 26).bind (·.zero) with | some (.agg c) => c | _ => #[]
@[go_sem ↓] theorem zv26 (w : World) : (zeroValue 26).run Try.prog w = .ok (.agg PZ26) w := by kernel_rfl
@[simp, go_sem] theorem PZ26_size : PZ26.size = 8 := by kernel_rfl
@[simp, go_sem] theorem PZ26_0 : PZ26[0]? = some (.int .u16 0) := by kernel_rfl
@[simp, go_sem] theorem PZ26_1 : PZ26[1]? = some (.string ⟨#[]⟩) := by kernel_rfl
@[simp, go_sem] theorem PZ26_2 : PZ26[2]? = some (.int .u64 0) := by kernel_rfl
@[simp, go_sem] theorem PZ26_3 : PZ26[3]? = some (.int .u64 0) := by kernel_rfl
@[simp, go_sem] theorem PZ26_4 : PZ26[4]? = some (.int .u64 0) := by kernel_rfl
@[simp, go_sem] theorem PZ26_5 : PZ26[5]? = some (.bool false) := by kernel_rfl
@[simp, go_sem] theorem PZ26_6 : PZ26[6]? = some (.bool false) := by kernel_rfl
@[simp, go_sem] theorem PZ26_7 : PZ26[7]? = some (.slice none 0 0) := by kernel_rfl
@[go_sem ↓] theorem fa26_0 (b o : Nat) (w : World) : (Instr.fieldAt 26 (.pointer (some ⟨b, o, none⟩)) 0).run Try.prog w = .ok (.pointer (some ⟨b, o, none⟩)) w := by kernel_rfl
@[go_sem ↓] theorem fa26_1 (b o : Nat) (w : World) : (Instr.fieldAt 26 (.pointer (some ⟨b, o, none⟩)) 1).run Try.prog w = .ok (.pointer (some ⟨b, o + 1, none⟩)) w := by kernel_rfl
@[go_sem ↓] theorem fa26_2 (b o : Nat) (w : World) : (Instr.fieldAt 26 (.pointer (some ⟨b, o, none⟩)) 2).run Try.prog w = .ok (.pointer (some ⟨b, o + 2, none⟩)) w := by kernel_rfl
@[go_sem ↓] theorem fa26_3 (b o : Nat) (w : World) : (Instr.fieldAt 26 (.pointer (some ⟨b, o, none⟩)) 3).run Try.prog w = .ok (.pointer (some ⟨b, o + 3, none⟩)) w := by kernel_rfl
@[go_sem ↓] theorem fa26_4 (b o : Nat) (w : World) : (Instr.fieldAt 26 (.pointer (some ⟨b, o, none⟩)) 4).run Try.prog w = .ok (.pointer (some ⟨b, o + 4, none⟩)) w := by kernel_rfl
@[go_sem ↓] theorem fa26_5 (b o : Nat) (w : World) : (Instr.fieldAt 26 (.pointer (some ⟨b, o, none⟩)) 5).run Try.prog w = .ok (.pointer (some ⟨b, o + 5, none⟩)) w := by kernel_rfl
@[go_sem ↓] theorem fa26_6 (b o : Nat) (w : World) : (Instr.fieldAt 26 (.pointer (some ⟨b, o, none⟩)) 6).run Try.prog w = .ok (.pointer (some ⟨b, o + 6, none⟩)) w := by kernel_rfl
@[go_sem ↓] theorem fa26_7 (b o : Nat) (w : World) : (Instr.fieldAt 26 (.pointer (some ⟨b, o, none⟩)) 7).run Try.prog w = .ok (.pointer (some ⟨b, o + 7, none⟩)) w := by kernel_rfl
noncomputable def PZ66 : Array Value := match (Try.prog.info? 66).bind (·.zero) with | some (.agg c) => c | _ => #[]
@[go_sem ↓] theorem zv66 (w : World) : (zeroValue 66).run Try.prog w = .ok (.agg PZ66) w := by kernel_rfl
@[simp, go_sem] theorem PZ66_size : PZ66.size = 51 := by kernel_rfl
@[simp, go_sem] theorem PZ66_0 : PZ66[0]? = some (.slice none 0 0) := by kernel_rfl
@[simp, go_sem] theorem PZ66_1 : PZ66[1]? = some (.nilIface) := by kernel_rfl
@[simp, go_sem] theorem PZ66_2 : PZ66[2]? = some (.slice none 0 0) := by kernel_rfl
@[simp, go_sem] theorem PZ66_3 : PZ66[3]? = some (.int .u32 0) := by kernel_rfl
@[simp, go_sem] theorem PZ66_4 : PZ66[4]? = some (.nilIface) := by kernel_rfl
@[simp, go_sem] theorem PZ66_5 : PZ66[5]? = some (.slice none 0 0) := by kernel_rfl
@[simp, go_sem] theorem PZ66_6 : PZ66[6]? = some (.int .u32 0) := by kernel_rfl
@[simp, go_sem] theorem PZ66_7 : PZ66[7]? = some (.bool false) := by kernel_rfl
@[simp, go_sem] theorem PZ66_8 : PZ66[8]? = some (.bool false) := by kernel_rfl
@[simp, go_sem] theorem PZ66_9 : PZ66[9]? = some (.bool false) := by kernel_rfl
@[simp, go_sem] theorem PZ66_10 : PZ66[10]? = some (.string ⟨#[]⟩) := by kernel_rfl
@[simp, go_sem] theorem PZ66_11 : PZ66[11]? = some (.bool false) := by kernel_rfl
@[simp, go_sem] theorem PZ66_12 : PZ66[12]? = some (.bool false) := by kernel_rfl
@[simp, go_sem] theorem PZ66_13 : PZ66[13]? = some (.pointer none) := by kernel_rfl
@[simp, go_sem] theorem PZ66_14 : PZ66[14]? = some (.pointer none) := by kernel_rfl
@[simp, go_sem] theorem PZ66_15 : PZ66[15]? = some (.pointer none) := by kernel_rfl
@[simp, go_sem] theorem PZ66_16 : PZ66[16]? = some (.slice none 0 0) := by kernel_rfl
@[simp, go_sem] theorem PZ66_17 : PZ66[17]? = some (.pointer none) := by kernel_rfl
@[simp, go_sem] theorem PZ66_18 : PZ66[18]? = some (.string ⟨#[]⟩) := by kernel_rfl
@[simp, go_sem] theorem PZ66_19 : PZ66[19]? = some (.pointer none) := by kernel_rfl
@[simp, go_sem] theorem PZ66_20 : PZ66[20]? = some (.int .i32 0) := by kernel_rfl
@[simp, go_sem] theorem PZ66_21 : PZ66[21]? = some (.int .i32 0) := by kernel_rfl
@[simp, go_sem] theorem PZ66_22 : PZ66[22]? = some (.int .u8 0) := by kernel_rfl
@[simp, go_sem] theorem PZ66_23 : PZ66[23]? = some (.int .u64 0) := by kernel_rfl
@[simp, go_sem] theorem PZ66_24 : PZ66[24]? = some (.int .u64 0) := by kernel_rfl
@[simp, go_sem] theorem PZ66_25 : PZ66[25]? = some (.int .u64 0) := by kernel_rfl
@[simp, go_sem] theorem PZ66_26 : PZ66[26]? = some (.int .u8 0) := by kernel_rfl
@[simp, go_sem] theorem PZ66_27 : PZ66[27]? = some (.int .u8 0) := by kernel_rfl
@[simp, go_sem] theorem PZ66_28 : PZ66[28]? = some (.int .u8 0) := by kernel_rfl
@[simp, go_sem] theorem PZ66_29 : PZ66[29]? = some (.int .u8 0) := by kernel_rfl
@[simp, go_sem] theorem PZ66_30 : PZ66[30]? = some (.int .u8 0) := by kernel_rfl
@[simp, go_sem] theorem PZ66_31 : PZ66[31]? = some (.int .u8 0) := by kernel_rfl
@[simp, go_sem] theorem PZ66_32 : PZ66[32]? = some (.bool false) := by kernel_rfl
@[simp, go_sem] theorem PZ66_33 : PZ66[33]? = some (.bool false) := by kernel_rfl
@[simp, go_sem] theorem PZ66_34 : PZ66[34]? = some (.int .u8 0) := by kernel_rfl
@[simp, go_sem] theorem PZ66_35 : PZ66[35]? = some (.int .u8 0) := by kernel_rfl
@[simp, go_sem] theorem PZ66_36 : PZ66[36]? = some (.int .u8 0) := by kernel_rfl
@[simp, go_sem] theorem PZ66_37 : PZ66[37]? = some (.int .u8 0) := by kernel_rfl
@[simp, go_sem] theorem PZ66_38 : PZ66[38]? = some (.int .u8 0) := by kernel_rfl
@[simp, go_sem] theorem PZ66_39 : PZ66[39]? = some (.bool false) := by kernel_rfl
@[simp, go_sem] theorem PZ66_40 : PZ66[40]? = some (.bool false) := by kernel_rfl
@[simp, go_sem] theorem PZ66_41 : PZ66[41]? = some (.bool false) := by kernel_rfl
@[simp, go_sem] theorem PZ66_42 : PZ66[42]? = some (.bool false) := by kernel_rfl
@[simp, go_sem] theorem PZ66_43 : PZ66[43]? = some (.bool false) := by kernel_rfl
@[simp, go_sem] theorem PZ66_44 : PZ66[44]? = some (.bool false) := by kernel_rfl
@[simp, go_sem] theorem PZ66_45 : PZ66[45]? = some (.bool false) := by kernel_rfl
@[simp, go_sem] theorem PZ66_46 : PZ66[46]? = some (.bool false) := by kernel_rfl
@[simp, go_sem] theorem PZ66_47 : PZ66[47]? = some (.bool false) := by kernel_rfl
@[simp, go_sem] theorem PZ66_48 : PZ66[48]? = some (.bool false) := by kernel_rfl
@[simp, go_sem] theorem PZ66_49 : PZ66[49]? = some (.bool false) := by kernel_rfl
@[simp, go_sem] theorem PZ66_50 : PZ66[50]? = some (.bool false) := by kernel_rfl
@[go_sem ↓] theorem fa66_0 (b o : Nat) (w : World) : (Instr.fieldAt 66 (.pointer (some ⟨b, o, none⟩)) 0).run Try.prog w = .ok (.pointer (some ⟨b, o, none⟩)) w := by kernel_rfl
@[go_sem ↓] theorem fa66_1 (b o : Nat) (w : World) : (Instr.fieldAt 66 (.pointer (some ⟨b, o, none⟩)) 1).run Try.prog w = .ok (.pointer (some ⟨b, o + 1, none⟩)) w := by kernel_rfl
@[go_sem ↓] theorem fa66_2 (b o : Nat) (w : World) : (Instr.fieldAt 66 (.pointer (some ⟨b, o, none⟩)) 2).run Try.prog w = .ok (.pointer (some ⟨b, o + 13, none⟩)) w := by kernel_rfl
@[go_sem ↓] theorem fa66_3 (b o : Nat) (w : World) : (Instr.fieldAt 66 (.pointer (some ⟨b, o, none⟩)) 3).run Try.prog w = .ok (.pointer (some ⟨b, o + 14, none⟩)) w := by kernel_rfl
@[go_sem ↓] theorem fa66_4 (b o : Nat) (w : World) : (Instr.fieldAt 66 (.pointer (some ⟨b, o, none⟩)) 4).run Try.prog w = .ok (.pointer (some ⟨b, o + 15, none⟩)) w := by kernel_rfl
@[go_sem ↓] theorem fa66_5 (b o : Nat) (w : World) : (Instr.fieldAt 66 (.pointer (some ⟨b, o, none⟩)) 5).run Try.prog w = .ok (.pointer (some ⟨b, o + 16, none⟩)) w := by kernel_rfl
@[go_sem ↓] theorem fa66_6 (b o : Nat) (w : World) : (Instr.fieldAt 66 (.pointer (some ⟨b, o, none⟩)) 6).run Try.prog w = .ok (.pointer (some ⟨b, o + 17, none⟩)) w := by kernel_rfl
@[go_sem ↓] theorem fa66_7 (b o : Nat) (w : World) : (Instr.fieldAt 66 (.pointer (some ⟨b, o, none⟩)) 7).run Try.prog w = .ok (.pointer (some ⟨b, o + 18, none⟩)) w := by kernel_rfl
noncomputable def PZ92 : Array Value := match (Try.prog.info? 92).bind (·.zero) with | some (.agg c) => c | _ => #[]
@[go_sem ↓] theorem zv92 (w : World) : (zeroValue 92).run Try.prog w = .ok (.agg PZ92) w := by kernel_rfl
@[simp, go_sem] theorem PZ92_size : PZ92.size = 102 := by kernel_rfl
@[simp, go_sem] theorem PZ92_0 : PZ92[0]? = some (.pointer none) := by kernel_rfl
@[simp, go_sem] theorem PZ92_1 : PZ92[1]? = some (.int .i32 0) := by kernel_rfl
@[simp, go_sem] theorem PZ92_2 : PZ92[2]? = some (.int .i32 0) := by kernel_rfl
@[simp, go_sem] theorem PZ92_3 : PZ92[3]? = some (.int .u8 0) := by kernel_rfl
@[simp, go_sem] theorem PZ92_4 : PZ92[4]? = some (.pointer none) := by kernel_rfl
@[simp, go_sem] theorem PZ92_5 : PZ92[5]? = some (.pointer none) := by kernel_rfl
@[simp, go_sem] theorem PZ92_6 : PZ92[6]? = some (.pointer none) := by kernel_rfl
@[simp, go_sem] theorem PZ92_7 : PZ92[7]? = some (.pointer none) := by kernel_rfl
@[simp, go_sem] theorem PZ92_8 : PZ92[8]? = some (.pointer none) := by kernel_rfl
@[simp, go_sem] theorem PZ92_9 : PZ92[9]? = some (.nilFunc) := by kernel_rfl
@[simp, go_sem] theorem PZ92_10 : PZ92[10]? = some (.string ⟨#[]⟩) := by kernel_rfl
@[simp, go_sem] theorem PZ92_11 : PZ92[11]? = some (.slice none 0 0) := by kernel_rfl
@[simp, go_sem] theorem PZ92_12 : PZ92[12]? = some (.slice none 0 0) := by kernel_rfl
@[simp, go_sem] theorem PZ92_13 : PZ92[13]? = some (.slice none 0 0) := by kernel_rfl
@[simp, go_sem] theorem PZ92_14 : PZ92[14]? = some (.slice none 0 0) := by kernel_rfl
@[simp, go_sem] theorem PZ92_15 : PZ92[15]? = some (.slice none 0 0) := by kernel_rfl
@[simp, go_sem] theorem PZ92_16 : PZ92[16]? = some (.map none) := by kernel_rfl
@[simp, go_sem] theorem PZ92_17 : PZ92[17]? = some (.slice none 0 0) := by kernel_rfl
@[simp, go_sem] theorem PZ92_18 : PZ92[18]? = some (.map none) := by kernel_rfl
@[simp, go_sem] theorem PZ92_19 : PZ92[19]? = some (.slice none 0 0) := by kernel_rfl
@[simp, go_sem] theorem PZ92_20 : PZ92[20]? = some (.bool false) := by kernel_rfl
@[simp, go_sem] theorem PZ92_21 : PZ92[21]? = some (.map none) := by kernel_rfl
@[simp, go_sem] theorem PZ92_22 : PZ92[22]? = some (.string ⟨#[]⟩) := by kernel_rfl
@[simp, go_sem] theorem PZ92_23 : PZ92[23]? = some (.string ⟨#[]⟩) := by kernel_rfl
@[simp, go_sem] theorem PZ92_24 : PZ92[24]? = some (.string ⟨#[]⟩) := by kernel_rfl
@[simp, go_sem] theorem PZ92_25 : PZ92[25]? = some (.string ⟨#[]⟩) := by kernel_rfl
@[simp, go_sem] theorem PZ92_26 : PZ92[26]? = some (.string ⟨#[]⟩) := by kernel_rfl
@[simp, go_sem] theorem PZ92_27 : PZ92[27]? = some (.slice none 0 0) := by kernel_rfl
@[simp, go_sem] theorem PZ92_28 : PZ92[28]? = some (.string ⟨#[]⟩) := by kernel_rfl
@[simp, go_sem] theorem PZ92_29 : PZ92[29]? = some (.string ⟨#[]⟩) := by kernel_rfl
@[simp, go_sem] theorem PZ92_30 : PZ92[30]? = some (.map none) := by kernel_rfl
@[simp, go_sem] theorem PZ92_31 : PZ92[31]? = some (.string ⟨#[]⟩) := by kernel_rfl
@[simp, go_sem] theorem PZ92_32 : PZ92[32]? = some (.slice none 0 0) := by kernel_rfl
@[simp, go_sem] theorem PZ92_33 : PZ92[33]? = some (.slice none 0 0) := by kernel_rfl
@[simp, go_sem] theorem PZ92_34 : PZ92[34]? = some (.slice none 0 0) := by kernel_rfl
@[simp, go_sem] theorem PZ92_35 : PZ92[35]? = some (.string ⟨#[]⟩) := by kernel_rfl
@[simp, go_sem] theorem PZ92_36 : PZ92[36]? = some (.string ⟨#[]⟩) := by kernel_rfl
@[simp, go_sem] theorem PZ92_37 : PZ92[37]? = some (.string ⟨#[]⟩) := by kernel_rfl
@[simp, go_sem] theorem PZ92_38 : PZ92[38]? = some (.string ⟨#[]⟩) := by kernel_rfl
@[simp, go_sem] theorem PZ92_39 : PZ92[39]? = some (.slice none 0 0) := by kernel_rfl
@[simp, go_sem] theorem PZ92_40 : PZ92[40]? = some (.slice none 0 0) := by kernel_rfl
@[simp, go_sem] theorem PZ92_41 : PZ92[41]? = some (.slice none 0 0) := by kernel_rfl
@[simp, go_sem] theorem PZ92_42 : PZ92[42]? = some (.slice none 0 0) := by kernel_rfl
@[simp, go_sem] theorem PZ92_43 : PZ92[43]? = some (.string ⟨#[]⟩) := by kernel_rfl
@[simp, go_sem] theorem PZ92_44 : PZ92[44]? = some (.pointer none) := by kernel_rfl
@[simp, go_sem] theorem PZ92_45 : PZ92[45]? = some (.nilIface) := by kernel_rfl
@[simp, go_sem] theorem PZ92_46 : PZ92[46]? = some (.slice none 0 0) := by kernel_rfl
@[simp, go_sem] theorem PZ92_47 : PZ92[47]? = some (.int .u32 0) := by kernel_rfl
@[simp, go_sem] theorem PZ92_48 : PZ92[48]? = some (.nilIface) := by kernel_rfl
@[simp, go_sem] theorem PZ92_49 : PZ92[49]? = some (.slice none 0 0) := by kernel_rfl
@[simp, go_sem] theorem PZ92_50 : PZ92[50]? = some (.int .u32 0) := by kernel_rfl
@[simp, go_sem] theorem PZ92_51 : PZ92[51]? = some (.bool false) := by kernel_rfl
@[simp, go_sem] theorem PZ92_52 : PZ92[52]? = some (.bool false) := by kernel_rfl
@[simp, go_sem] theorem PZ92_53 : PZ92[53]? = some (.bool false) := by kernel_rfl
@[simp, go_sem] theorem PZ92_54 : PZ92[54]? = some (.string ⟨#[]⟩) := by kernel_rfl
@[simp, go_sem] theorem PZ92_55 : PZ92[55]? = some (.bool false) := by kernel_rfl
@[simp, go_sem] theorem PZ92_56 : PZ92[56]? = some (.bool false) := by kernel_rfl
@[simp, go_sem] theorem PZ92_57 : PZ92[57]? = some (.int .i64 0) := by kernel_rfl
@[simp, go_sem] theorem PZ92_58 : PZ92[58]? = some (.map none) := by kernel_rfl
@[simp, go_sem] theorem PZ92_59 : PZ92[59]? = some (.int .u64 0) := by kernel_rfl
@[simp, go_sem] theorem PZ92_60 : PZ92[60]? = some (.int .u16 0) := by kernel_rfl
@[simp, go_sem] theorem PZ92_61 : PZ92[61]? = some (.int .u64 0) := by kernel_rfl
@[simp, go_sem] theorem PZ92_62 : PZ92[62]? = some (.int .u64 0) := by kernel_rfl
@[simp, go_sem] theorem PZ92_63 : PZ92[63]? = some (.int .u16 0) := by kernel_rfl
@[simp, go_sem] theorem PZ92_64 : PZ92[64]? = some (.int .u16 0) := by kernel_rfl
@[simp, go_sem] theorem PZ92_65 : PZ92[65]? = some (.int .u8 0) := by kernel_rfl
@[simp, go_sem] theorem PZ92_66 : PZ92[66]? = some (.int .u8 0) := by kernel_rfl
@[simp, go_sem] theorem PZ92_67 : PZ92[67]? = some (.int .u8 0) := by kernel_rfl
@[simp, go_sem] theorem PZ92_68 : PZ92[68]? = some (.int .u8 0) := by kernel_rfl
@[simp, go_sem] theorem PZ92_69 : PZ92[69]? = some (.int .u8 0) := by kernel_rfl
@[simp, go_sem] theorem PZ92_70 : PZ92[70]? = some (.int .u8 0) := by kernel_rfl
@[simp, go_sem] theorem PZ92_71 : PZ92[71]? = some (.bool false) := by kernel_rfl
@[simp, go_sem] theorem PZ92_72 : PZ92[72]? = some (.bool false) := by kernel_rfl
@[simp, go_sem] theorem PZ92_73 : PZ92[73]? = some (.int .u8 0) := by kernel_rfl
@[simp, go_sem] theorem PZ92_74 : PZ92[74]? = some (.bool false) := by kernel_rfl
@[simp, go_sem] theorem PZ92_75 : PZ92[75]? = some (.bool false) := by kernel_rfl
@[simp, go_sem] theorem PZ92_76 : PZ92[76]? = some (.bool false) := by kernel_rfl
@[simp, go_sem] theorem PZ92_77 : PZ92[77]? = some (.bool false) := by kernel_rfl
@[simp, go_sem] theorem PZ92_78 : PZ92[78]? = some (.bool false) := by kernel_rfl
@[simp, go_sem] theorem PZ92_79 : PZ92[79]? = some (.bool false) := by kernel_rfl
@[simp, go_sem] theorem PZ92_80 : PZ92[80]? = some (.bool false) := by kernel_rfl
@[simp, go_sem] theorem PZ92_81 : PZ92[81]? = some (.bool false) := by kernel_rfl
@[simp, go_sem] theorem PZ92_82 : PZ92[82]? = some (.int .u8 0) := by kernel_rfl
@[simp, go_sem] theorem PZ92_83 : PZ92[83]? = some (.int .u8 0) := by kernel_rfl
@[simp, go_sem] theorem PZ92_84 : PZ92[84]? = some (.int .u8 0) := by kernel_rfl
@[simp, go_sem] theorem PZ92_85 : PZ92[85]? = some (.int .u8 0) := by kernel_rfl
@[simp, go_sem] theorem PZ92_86 : PZ92[86]? = some (.int .u8 0) := by kernel_rfl
@[simp, go_sem] theorem PZ92_87 : PZ92[87]? = some (.bool false) := by kernel_rfl
@[simp, go_sem] theorem PZ92_88 : PZ92[88]? = some (.int .u8 0) := by kernel_rfl
@[simp, go_sem] theorem PZ92_89 : PZ92[89]? = some (.bool false) := by kernel_rfl
@[simp, go_sem] theorem PZ92_90 : PZ92[90]? = some (.bool false) := by kernel_rfl
@[simp, go_sem] theorem PZ92_91 : PZ92[91]? = some (.bool false) := by kernel_rfl
@[simp, go_sem] theorem PZ92_92 : PZ92[92]? = some (.bool false) := by kernel_rfl
@[simp, go_sem] theorem PZ92_93 : PZ92[93]? = some (.bool false) := by kernel_rfl
@[simp, go_sem] theorem PZ92_94 : PZ92[94]? = some (.bool false) := by kernel_rfl
@[simp, go_sem] theorem PZ92_95 : PZ92[95]? = some (.bool false) := by kernel_rfl
@[simp, go_sem] theorem PZ92_96 : PZ92[96]? = some (.bool false) := by kernel_rfl
@[simp, go_sem] theorem PZ92_97 : PZ92[97]? = some (.int .u8 0) := by kernel_rfl
@[simp, go_sem] theorem PZ92_98 : PZ92[98]? = some (.int .u8 0) := by kernel_rfl
@[simp, go_sem] theorem PZ92_99 : PZ92[99]? = some (.bool false) := by kernel_rfl
@[simp, go_sem] theorem PZ92_100 : PZ92[100]? = some (.int .u8 0) := by kernel_rfl
@[simp, go_sem] theorem PZ92_101 : PZ92[101]? = some (.bool false) := by kernel_rfl
@[go_sem ↓] theorem fa92_0 (b o : Nat) (w : World) : (Instr.fieldAt 92 (.pointer (some ⟨b, o, none⟩)) 0).run Try.prog w = .ok (.pointer (some ⟨b, o, none⟩)) w := by kernel_rfl
@[go_sem ↓] theorem fa92_1 (b o : Nat) (w : World) : (Instr.fieldAt 92 (.pointer (some ⟨b, o, none⟩)) 1).run Try.prog w = .ok (.pointer (some ⟨b, o + 4, none⟩)) w := by kernel_rfl
@[go_sem ↓] theorem fa92_2 (b o : Nat) (w : World) : (Instr.fieldAt 92 (.pointer (some ⟨b, o, none⟩)) 2).run Try.prog w = .ok (.pointer (some ⟨b, o + 5, none⟩)) w := by kernel_rfl
@[go_sem ↓] theorem fa92_3 (b o : Nat) (w : World) : (Instr.fieldAt 92 (.pointer (some ⟨b, o, none⟩)) 3).run Try.prog w = .ok (.pointer (some ⟨b, o + 6, none⟩)) w := by kernel_rfl
@[go_sem ↓] theorem fa92_4 (b o : Nat) (w : World) : (Instr.fieldAt 92 (.pointer (some ⟨b, o, none⟩)) 4).run Try.prog w = .ok (.pointer (some ⟨b, o + 7, none⟩)) w := by kernel_rfl
@[go_sem ↓] theorem fa92_5 (b o : Nat) (w : World) : (Instr.fieldAt 92 (.pointer (some ⟨b, o, none⟩)) 5).run Try.prog w = .ok (.pointer (some ⟨b, o + 8, none⟩)) w := by kernel_rfl
@[go_sem ↓] theorem fa92_6 (b o : Nat) (w : World) : (Instr.fieldAt 92 (.pointer (some ⟨b, o, none⟩)) 6).run Try.prog w = .ok (.pointer (some ⟨b, o + 9, none⟩)) w := by kernel_rfl
@[go_sem ↓] theorem fa92_7 (b o : Nat) (w : World) : (Instr.fieldAt 92 (.pointer (some ⟨b, o, none⟩)) 7).run Try.prog w = .ok (.pointer (some ⟨b, o + 10, none⟩)) w := by kernel_rfl
@[go_sem ↓] theorem fa92_8 (b o : Nat) (w : World) : (Instr.fieldAt 92 (.pointer (some ⟨b, o, none⟩)) 8).run Try.prog w = .ok (.pointer (some ⟨b, o + 11, none⟩)) w := by kernel_rfl
@[go_sem ↓] theorem fa92_9 (b o : Nat) (w : World) : (Instr.fieldAt 92 (.pointer (some ⟨b, o, none⟩)) 9).run Try.prog w = .ok (.pointer (some ⟨b, o + 12, none⟩)) w := by kernel_rfl
@[go_sem ↓] theorem fa92_10 (b o : Nat) (w : World) : (Instr.fieldAt 92 (.pointer (some ⟨b, o, none⟩)) 10).run Try.prog w = .ok (.pointer (some ⟨b, o + 13, none⟩)) w := by kernel_rfl
@[go_sem ↓] theorem fa92_11 (b o : Nat) (w : World) : (Instr.fieldAt 92 (.pointer (some ⟨b, o, none⟩)) 11).run Try.prog w = .ok (.pointer (some ⟨b, o + 14, none⟩)) w := by kernel_rfl
@[go_sem ↓] theorem fa92_12 (b o : Nat) (w : World) : (Instr.fieldAt 92 (.pointer (some ⟨b, o, none⟩)) 12).run Try.prog w = .ok (.pointer (some ⟨b, o + 15, none⟩)) w := by kernel_rfl
@[go_sem ↓] theorem fa92_13 (b o : Nat) (w : World) : (Instr.fieldAt 92 (.pointer (some ⟨b, o, none⟩)) 13).run Try.prog w = .ok (.pointer (some ⟨b, o + 16, none⟩)) w := by kernel_rfl
@[go_sem ↓] theorem fa92_14 (b o : Nat) (w : World) : (Instr.fieldAt 92 (.pointer (some ⟨b, o, none⟩)) 14).run Try.prog w = .ok (.pointer (some ⟨b, o + 20, none⟩)) w := by kernel_rfl
@[go_sem ↓] theorem fa92_15 (b o : Nat) (w : World) : (Instr.fieldAt 92 (.pointer (some ⟨b, o, none⟩)) 15).run Try.prog w = .ok (.pointer (some ⟨b, o + 21, none⟩)) w := by kernel_rfl
@[go_sem ↓] theorem fa92_16 (b o : Nat) (w : World) : (Instr.fieldAt 92 (.pointer (some ⟨b, o, none⟩)) 16).run Try.prog w = .ok (.pointer (some ⟨b, o + 22, none⟩)) w := by kernel_rfl
@[go_sem ↓] theorem fa92_17 (b o : Nat) (w : World) : (Instr.fieldAt 92 (.pointer (some ⟨b, o, none⟩)) 17).run Try.prog w = .ok (.pointer (some ⟨b, o + 23, none⟩)) w := by kernel_rfl
@[go_sem ↓] theorem fa92_18 (b o : Nat) (w : World) : (Instr.fieldAt 92 (.pointer (some ⟨b, o, none⟩)) 18).run Try.prog w = .ok (.pointer (some ⟨b, o + 24, none⟩)) w := by kernel_rfl
@[go_sem ↓] theorem fa92_19 (b o : Nat) (w : World) : (Instr.fieldAt 92 (.pointer (some ⟨b, o, none⟩)) 19).run Try.prog w = .ok (.pointer (some ⟨b, o + 25, none⟩)) w := by kernel_rfl
@[go_sem ↓] theorem fa92_20 (b o : Nat) (w : World) : (Instr.fieldAt 92 (.pointer (some ⟨b, o, none⟩)) 20).run Try.prog w = .ok (.pointer (some ⟨b, o + 26, none⟩)) w := by kernel_rfl
@[go_sem ↓] theorem fa92_21 (b o : Nat) (w : World) : (Instr.fieldAt 92 (.pointer (some ⟨b, o, none⟩)) 21).run Try.prog w = .ok (.pointer (some ⟨b, o + 27, none⟩)) w := by kernel_rfl
@[go_sem ↓] theorem fa92_22 (b o : Nat) (w : World) : (Instr.fieldAt 92 (.pointer (some ⟨b, o, none⟩)) 22).run Try.prog w = .ok (.pointer (some ⟨b, o + 28, none⟩)) w := by kernel_rfl
@[go_sem ↓] theorem fa92_23 (b o : Nat) (w : World) : (Instr.fieldAt 92 (.pointer (some ⟨b, o, none⟩)) 23).run Try.prog w = .ok (.pointer (some ⟨b, o + 29, none⟩)) w := by kernel_rfl
@[go_sem ↓] theorem fa92_24 (b o : Nat) (w : World) : (Instr.fieldAt 92 (.pointer (some ⟨b, o, none⟩)) 24).run Try.prog w = .ok (.pointer (some ⟨b, o + 30, none⟩)) w := by kernel_rfl
@[go_sem ↓] theorem fa92_25 (b o : Nat) (w : World) : (Instr.fieldAt 92 (.pointer (some ⟨b, o, none⟩)) 25).run Try.prog w = .ok (.pointer (some ⟨b, o + 31, none⟩)) w := by kernel_rfl
@[go_sem ↓] theorem fa92_26 (b o : Nat) (w : World) : (Instr.fieldAt 92 (.pointer (some ⟨b, o, none⟩)) 26).run Try.prog w = .ok (.pointer (some ⟨b, o + 32, none⟩)) w := by kernel_rfl
@[go_sem ↓] theorem fa92_27 (b o : Nat) (w : World) : (Instr.fieldAt 92 (.pointer (some ⟨b, o, none⟩)) 27).run Try.prog w = .ok (.pointer (some ⟨b, o + 33, none⟩)) w := by kernel_rfl
@[go_sem ↓] theorem fa92_28 (b o : Nat) (w : World) : (Instr.fieldAt 92 (.pointer (some ⟨b, o, none⟩)) 28).run Try.prog w = .ok (.pointer (some ⟨b, o + 34, none⟩)) w := by kernel_rfl
@[go_sem ↓] theorem fa92_29 (b o : Nat) (w : World) : (Instr.fieldAt 92 (.pointer (some ⟨b, o, none⟩)) 29).run Try.prog w = .ok (.pointer (some ⟨b, o + 35, none⟩)) w := by kernel_rfl
@[go_sem ↓] theorem fa92_30 (b o : Nat) (w : World) : (Instr.fieldAt 92 (.pointer (some ⟨b, o, none⟩)) 30).run Try.prog w = .ok (.pointer (some ⟨b, o + 36, none⟩)) w := by kernel_rfl
@[go_sem ↓] theorem fa92_31 (b o : Nat) (w : World) : (Instr.fieldAt 92 (.pointer (some ⟨b, o, none⟩)) 31).run Try.prog w = .ok (.pointer (some ⟨b, o + 37, none⟩)) w := by kernel_rfl
@[go_sem ↓] theorem fa92_32 (b o : Nat) (w : World) : (Instr.fieldAt 92 (.pointer (some ⟨b, o, none⟩)) 32).run Try.prog w = .ok (.pointer (some ⟨b, o + 38, none⟩)) w := by kernel_rfl
@[go_sem ↓] theorem fa92_33 (b o : Nat) (w : World) : (Instr.fieldAt 92 (.pointer (some ⟨b, o, none⟩)) 33).run Try.prog w = .ok (.pointer (some ⟨b, o + 39, none⟩)) w := by kernel_rfl
@[go_sem ↓] theorem fa92_34 (b o : Nat) (w : World) : (Instr.fieldAt 92 (.pointer (some ⟨b, o, none⟩)) 34).run Try.prog w = .ok (.pointer (some ⟨b, o + 40, none⟩)) w := by kernel_rfl
@[go_sem ↓] theorem fa92_35 (b o : Nat) (w : World) : (Instr.fieldAt 92 (.pointer (some ⟨b, o, none⟩)) 35).run Try.prog w = .ok (.pointer (some ⟨b, o + 41, none⟩)) w := by kernel_rfl
@[go_sem ↓] theorem fa92_36 (b o : Nat) (w : World) : (Instr.fieldAt 92 (.pointer (some ⟨b, o, none⟩)) 36).run Try.prog w = .ok (.pointer (some ⟨b, o + 42, none⟩)) w := by kernel_rfl
@[go_sem ↓] theorem fa92_37 (b o : Nat) (w : World) : (Instr.fieldAt 92 (.pointer (some ⟨b, o, none⟩)) 37).run Try.prog w = .ok (.pointer (some ⟨b, o + 43, none⟩)) w := by kernel_rfl
@[go_sem ↓] theorem fa92_38 (b o : Nat) (w : World) : (Instr.fieldAt 92 (.pointer (some ⟨b, o, none⟩)) 38).run Try.prog w = .ok (.pointer (some ⟨b, o + 44, none⟩)) w := by kernel_rfl
@[go_sem ↓] theorem fa92_39 (b o : Nat) (w : World) : (Instr.fieldAt 92 (.pointer (some ⟨b, o, none⟩)) 39).run Try.prog w = .ok (.pointer (some ⟨b, o + 45, none⟩)) w := by kernel_rfl
@[go_sem ↓] theorem fa92_40 (b o : Nat) (w : World) : (Instr.fieldAt 92 (.pointer (some ⟨b, o, none⟩)) 40).run Try.prog w = .ok (.pointer (some ⟨b, o + 57, none⟩)) w := by kernel_rfl
@[go_sem ↓] theorem fa92_41 (b o : Nat) (w : World) : (Instr.fieldAt 92 (.pointer (some ⟨b, o, none⟩)) 41).run Try.prog w = .ok (.pointer (some ⟨b, o + 58, none⟩)) w := by kernel_rfl
@[go_sem ↓] theorem fa92_42 (b o : Nat) (w : World) : (Instr.fieldAt 92 (.pointer (some ⟨b, o, none⟩)) 42).run Try.prog w = .ok (.pointer (some ⟨b, o + 59, none⟩)) w := by kernel_rfl
@[go_sem ↓] theorem fa92_43 (b o : Nat) (w : World) : (Instr.fieldAt 92 (.pointer (some ⟨b, o, none⟩)) 43).run Try.prog w = .ok (.pointer (some ⟨b, o + 60, none⟩)) w := by kernel_rfl
@[go_sem ↓] theorem fa92_44 (b o : Nat) (w : World) : (Instr.fieldAt 92 (.pointer (some ⟨b, o, none⟩)) 44).run Try.prog w = .ok (.pointer (some ⟨b, o + 61, none⟩)) w := by kernel_rfl
@[go_sem ↓] theorem fa92_45 (b o : Nat) (w : World) : (Instr.fieldAt 92 (.pointer (some ⟨b, o, none⟩)) 45).run Try.prog w = .ok (.pointer (some ⟨b, o + 62, none⟩)) w := by kernel_rfl
@[go_sem ↓] theorem fa92_46 (b o : Nat) (w : World) : (Instr.fieldAt 92 (.pointer (some ⟨b, o, none⟩)) 46).run Try.prog w = .ok (.pointer (some ⟨b, o + 63, none⟩)) w := by kernel_rfl
@[go_sem ↓] theorem fa92_47 (b o : Nat) (w : World) : (Instr.fieldAt 92 (.pointer (some ⟨b, o, none⟩)) 47).run Try.prog w = .ok (.pointer (some ⟨b, o + 64, none⟩)) w := by kernel_rfl
@[go_sem ↓] theorem fa92_48 (b o : Nat) (w : World) : (Instr.fieldAt 92 (.pointer (some ⟨b, o, none⟩)) 48).run Try.prog w = .ok (.pointer (some ⟨b, o + 65, none⟩)) w := by kernel_rfl
@[go_sem ↓] theorem fa92_49 (b o : Nat) (w : World) : (Instr.fieldAt 92 (.pointer (some ⟨b, o, none⟩)) 49).run Try.prog w = .ok (.pointer (some ⟨b, o + 73, none⟩)) w := by kernel_rfl
@[go_sem ↓] theorem fa92_50 (b o : Nat) (w : World) : (Instr.fieldAt 92 (.pointer (some ⟨b, o, none⟩)) 50).run Try.prog w = .ok (.pointer (some ⟨b, o + 74, none⟩)) w := by kernel_rfl
@[go_sem ↓] theorem fa92_51 (b o : Nat) (w : World) : (Instr.fieldAt 92 (.pointer (some ⟨b, o, none⟩)) 51).run Try.prog w = .ok (.pointer (some ⟨b, o + 75, none⟩)) w := by kernel_rfl
@[go_sem ↓] theorem fa92_52 (b o : Nat) (w : World) : (Instr.fieldAt 92 (.pointer (some ⟨b, o, none⟩)) 52).run Try.prog w = .ok (.pointer (some ⟨b, o + 76, none⟩)) w := by kernel_rfl
@[go_sem ↓] theorem fa92_53 (b o : Nat) (w : World) : (Instr.fieldAt 92 (.pointer (some ⟨b, o, none⟩)) 53).run Try.prog w = .ok (.pointer (some ⟨b, o + 77, none⟩)) w := by kernel_rfl
@[go_sem ↓] theorem fa92_54 (b o : Nat) (w : World) : (Instr.fieldAt 92 (.pointer (some ⟨b, o, none⟩)) 54).run Try.prog w = .ok (.pointer (some ⟨b, o + 78, none⟩)) w := by kernel_rfl
@[go_sem ↓] theorem fa92_55 (b o : Nat) (w : World) : (Instr.fieldAt 92 (.pointer (some ⟨b, o, none⟩)) 55).run Try.prog w = .ok (.pointer (some ⟨b, o + 79, none⟩)) w := by kernel_rfl
@[go_sem ↓] theorem fa92_56 (b o : Nat) (w : World) : (Instr.fieldAt 92 (.pointer (some ⟨b, o, none⟩)) 56).run Try.prog w = .ok (.pointer (some ⟨b, o + 80, none⟩)) w := by kernel_rfl
@[go_sem ↓] theorem fa92_57 (b o : Nat) (w : World) : (Instr.fieldAt 92 (.pointer (some ⟨b, o, none⟩)) 57).run Try.prog w = .ok (.pointer (some ⟨b, o + 81, none⟩)) w := by kernel_rfl
@[go_sem ↓] theorem fa92_58 (b o : Nat) (w : World) : (Instr.fieldAt 92 (.pointer (some ⟨b, o, none⟩)) 58).run Try.prog w = .ok (.pointer (some ⟨b, o + 82, none⟩)) w := by kernel_rfl
@[go_sem ↓] theorem fa92_59 (b o : Nat) (w : World) : (Instr.fieldAt 92 (.pointer (some ⟨b, o, none⟩)) 59).run Try.prog w = .ok (.pointer (some ⟨b, o + 83, none⟩)) w := by kernel_rfl
@[go_sem ↓] theorem fa92_60 (b o : Nat) (w : World) : (Instr.fieldAt 92 (.pointer (some ⟨b, o, none⟩)) 60).run Try.prog w = .ok (.pointer (some ⟨b, o + 84, none⟩)) w := by kernel_rfl
@[go_sem ↓] theorem fa92_61 (b o : Nat) (w : World) : (Instr.fieldAt 92 (.pointer (some ⟨b, o, none⟩)) 61).run Try.prog w = .ok (.pointer (some ⟨b, o + 85, none⟩)) w := by kernel_rfl
@[go_sem ↓] theorem fa92_62 (b o : Nat) (w : World) : (Instr.fieldAt 92 (.pointer (some ⟨b, o, none⟩)) 62).run Try.prog w = .ok (.pointer (some ⟨b, o + 86, none⟩)) w := by kernel_rfl
@[go_sem ↓] theorem fa92_63 (b o : Nat) (w : World) : (Instr.fieldAt 92 (.pointer (some ⟨b, o, none⟩)) 63).run Try.prog w = .ok (.pointer (some ⟨b, o + 87, none⟩)) w := by kernel_rfl
@[go_sem ↓] theorem fa92_64 (b o : Nat) (w : World) : (Instr.fieldAt 92 (.pointer (some ⟨b, o, none⟩)) 64).run Try.prog w = .ok (.pointer (some ⟨b, o + 88, none⟩)) w := by kernel_rfl
@[go_sem ↓] theorem fa92_65 (b o : Nat) (w : World) : (Instr.fieldAt 92 (.pointer (some ⟨b, o, none⟩)) 65).run Try.prog w = .ok (.pointer (some ⟨b, o + 89, none⟩)) w := by kernel_rfl
@[go_sem ↓] theorem fa92_66 (b o : Nat) (w : World) : (Instr.fieldAt 92 (.pointer (some ⟨b, o, none⟩)) 66).run Try.prog w = .ok (.pointer (some ⟨b, o + 90, none⟩)) w := by kernel_rfl
@[go_sem ↓] theorem fa92_67 (b o : Nat) (w : World) : (Instr.fieldAt 92 (.pointer (some ⟨b, o, none⟩)) 67).run Try.prog w = .ok (.pointer (some ⟨b, o + 91, none⟩)) w := by kernel_rfl
@[go_sem ↓] theorem fa92_68 (b o : Nat) (w : World) : (Instr.fieldAt 92 (.pointer (some ⟨b, o, none⟩)) 68).run Try.prog w = .ok (.pointer (some ⟨b, o + 92, none⟩)) w := by kernel_rfl
@[go_sem ↓] theorem fa92_69 (b o : Nat) (w : World) : (Instr.fieldAt 92 (.pointer (some ⟨b, o, none⟩)) 69).run Try.prog w = .ok (.pointer (some ⟨b, o + 93, none⟩)) w := by kernel_rfl
@[go_sem ↓] theorem fa92_70 (b o : Nat) (w : World) : (Instr.fieldAt 92 (.pointer (some ⟨b, o, none⟩)) 70).run Try.prog w = .ok (.pointer (some ⟨b, o + 94, none⟩)) w := by kernel_rfl
@[go_sem ↓] theorem fa92_71 (b o : Nat) (w : World) : (Instr.fieldAt 92 (.pointer (some ⟨b, o, none⟩)) 71).run Try.prog w = .ok (.pointer (some ⟨b, o + 95, none⟩)) w := by kernel_rfl
@[go_sem ↓] theorem fa92_72 (b o : Nat) (w : World) : (Instr.fieldAt 92 (.pointer (some ⟨b, o, none⟩)) 72).run Try.prog w = .ok (.pointer (some ⟨b, o + 96, none⟩)) w := by kernel_rfl
@[go_sem ↓] theorem fa92_73 (b o : Nat) (w : World) : (Instr.fieldAt 92 (.pointer (some ⟨b, o, none⟩)) 73).run Try.prog w = .ok (.pointer (some ⟨b, o + 97, none⟩)) w := by kernel_rfl
@[go_sem ↓] theorem fa92_74 (b o : Nat) (w : World) : (Instr.fieldAt 92 (.pointer (some ⟨b, o, none⟩)) 74).run Try.prog w = .ok (.pointer (some ⟨b, o + 98, none⟩)) w := by kernel_rfl
@[go_sem ↓] theorem fa92_75 (b o : Nat) (w : World) : (Instr.fieldAt 92 (.pointer (some ⟨b, o, none⟩)) 75).run Try.prog w = .ok (.pointer (some ⟨b, o + 99, none⟩)) w := by kernel_rfl
@[go_sem ↓] theorem fa92_76 (b o : Nat) (w : World) : (Instr.fieldAt 92 (.pointer (some ⟨b, o, none⟩)) 76).run Try.prog w = .ok (.pointer (some ⟨b, o + 100, none⟩)) w := by kernel_rfl
@[go_sem ↓] theorem fa92_77 (b o : Nat) (w : World) : (Instr.fieldAt 92 (.pointer (some ⟨b, o, none⟩)) 77).run Try.prog w = .ok (.pointer (some ⟨b, o + 101, none⟩)) w := by kernel_rfl

end Go.Proofs.Ytfbjlgjlbndmkaa
