/-
  The struct types of many fields: the zero value's cells behind a name, where each field lies, what each zero cell holds.
-/
import Derived.Test.YtkncfhhiookgdaaDoorKit
namespace Go.Proofs.YtkncfhhiookgdaaDoor
set_option maxRecDepth 100000

noncomputable def PZ194 : Array Value := match (Tryd.prog.info? 194).bind (·.zero) with | some (.agg c) => c | _ => #[]
@[go_sem ↓] theorem zv194 (w : World) : (zeroValue 194).run Tryd.prog w = .ok (.agg PZ194) w := by kernel_rfl
@[simp, go_sem] theorem PZ194_size : PZ194.size = 353 := by kernel_rfl
@[simp, go_sem] theorem PZ194_0 : PZ194[0]? = some (.slice none 0 0) := by kernel_rfl
@[simp, go_sem] theorem PZ194_1 : PZ194[1]? = some (.nilIface) := by kernel_rfl
@[simp, go_sem] theorem PZ194_2 : PZ194[2]? = some (.slice none 0 0) := by kernel_rfl
@[simp, go_sem] theorem PZ194_3 : PZ194[3]? = some (.int .u32 0) := by kernel_rfl
@[simp, go_sem] theorem PZ194_4 : PZ194[4]? = some (.nilIface) := by kernel_rfl
@[simp, go_sem] theorem PZ194_5 : PZ194[5]? = some (.slice none 0 0) := by kernel_rfl
@[simp, go_sem] theorem PZ194_6 : PZ194[6]? = some (.int .u32 0) := by kernel_rfl
@[simp, go_sem] theorem PZ194_7 : PZ194[7]? = some (.bool false) := by kernel_rfl
@[simp, go_sem] theorem PZ194_8 : PZ194[8]? = some (.bool false) := by kernel_rfl
@[simp, go_sem] theorem PZ194_9 : PZ194[9]? = some (.bool false) := by kernel_rfl
@[simp, go_sem] theorem PZ194_10 : PZ194[10]? = some (.string ⟨#[]⟩) := by kernel_rfl
@[simp, go_sem] theorem PZ194_11 : PZ194[11]? = some (.bool false) := by kernel_rfl
@[simp, go_sem] theorem PZ194_12 : PZ194[12]? = some (.bool false) := by kernel_rfl
@[simp, go_sem] theorem PZ194_13 : PZ194[13]? = some (.pointer none) := by kernel_rfl
@[simp, go_sem] theorem PZ194_14 : PZ194[14]? = some (.pointer none) := by kernel_rfl
@[simp, go_sem] theorem PZ194_15 : PZ194[15]? = some (.pointer none) := by kernel_rfl
@[simp, go_sem] theorem PZ194_16 : PZ194[16]? = some (.slice none 0 0) := by kernel_rfl
@[simp, go_sem] theorem PZ194_17 : PZ194[17]? = some (.pointer none) := by kernel_rfl
@[simp, go_sem] theorem PZ194_18 : PZ194[18]? = some (.string ⟨#[]⟩) := by kernel_rfl
@[simp, go_sem] theorem PZ194_19 : PZ194[19]? = some (.pointer none) := by kernel_rfl
@[simp, go_sem] theorem PZ194_20 : PZ194[20]? = some (.int .i32 0) := by kernel_rfl
@[simp, go_sem] theorem PZ194_21 : PZ194[21]? = some (.int .i32 0) := by kernel_rfl
@[simp, go_sem] theorem PZ194_22 : PZ194[22]? = some (.int .u8 0) := by kernel_rfl
@[simp, go_sem] theorem PZ194_23 : PZ194[23]? = some (.int .u64 0) := by kernel_rfl
@[simp, go_sem] theorem PZ194_24 : PZ194[24]? = some (.int .u64 0) := by kernel_rfl
@[simp, go_sem] theorem PZ194_25 : PZ194[25]? = some (.int .u64 0) := by kernel_rfl
@[simp, go_sem] theorem PZ194_26 : PZ194[26]? = some (.int .u8 0) := by kernel_rfl
@[simp, go_sem] theorem PZ194_27 : PZ194[27]? = some (.int .u8 0) := by kernel_rfl
@[simp, go_sem] theorem PZ194_28 : PZ194[28]? = some (.int .u8 0) := by kernel_rfl
@[simp, go_sem] theorem PZ194_29 : PZ194[29]? = some (.int .u8 0) := by kernel_rfl
@[simp, go_sem] theorem PZ194_30 : PZ194[30]? = some (.int .u8 0) := by kernel_rfl
@[simp, go_sem] theorem PZ194_31 : PZ194[31]? = some (.int .u8 0) := by kernel_rfl
@[simp, go_sem] theorem PZ194_32 : PZ194[32]? = some (.bool false) := by kernel_rfl
@[simp, go_sem] theorem PZ194_33 : PZ194[33]? = some (.bool false) := by kernel_rfl
@[simp, go_sem] theorem PZ194_34 : PZ194[34]? = some (.int .u8 0) := by kernel_rfl
@[simp, go_sem] theorem PZ194_35 : PZ194[35]? = some (.int .u8 0) := by kernel_rfl
@[simp, go_sem] theorem PZ194_36 : PZ194[36]? = some (.int .u8 0) := by kernel_rfl
@[simp, go_sem] theorem PZ194_37 : PZ194[37]? = some (.int .u8 0) := by kernel_rfl
@[simp, go_sem] theorem PZ194_38 : PZ194[38]? = some (.int .u8 0) := by kernel_rfl
@[simp, go_sem] theorem PZ194_39 : PZ194[39]? = some (.bool false) := by kernel_rfl
@[simp, go_sem] theorem PZ194_40 : PZ194[40]? = some (.bool false) := by kernel_rfl
@[simp, go_sem] theorem PZ194_41 : PZ194[41]? = some (.bool false) := by kernel_rfl
@[simp, go_sem] theorem PZ194_42 : PZ194[42]? = some (.bool false) := by kernel_rfl
@[simp, go_sem] theorem PZ194_43 : PZ194[43]? = some (.bool false) := by kernel_rfl
@[simp, go_sem] theorem PZ194_44 : PZ194[44]? = some (.bool false) := by kernel_rfl
@[simp, go_sem] theorem PZ194_45 : PZ194[45]? = some (.bool false) := by kernel_rfl
@[simp, go_sem] theorem PZ194_46 : PZ194[46]? = some (.bool false) := by kernel_rfl
@[simp, go_sem] theorem PZ194_47 : PZ194[47]? = some (.bool false) := by kernel_rfl
@[simp, go_sem] theorem PZ194_48 : PZ194[48]? = some (.bool false) := by kernel_rfl
@[simp, go_sem] theorem PZ194_49 : PZ194[49]? = some (.bool false) := by kernel_rfl
@[simp, go_sem] theorem PZ194_50 : PZ194[50]? = some (.bool false) := by kernel_rfl
@[simp, go_sem] theorem PZ194_51 : PZ194[51]? = some (.nilFunc) := by kernel_rfl
@[simp, go_sem] theorem PZ194_52 : PZ194[52]? = some (.nilFunc) := by kernel_rfl
@[simp, go_sem] theorem PZ194_53 : PZ194[53]? = some (.nilFunc) := by kernel_rfl
@[simp, go_sem] theorem PZ194_54 : PZ194[54]? = some (.nilFunc) := by kernel_rfl
@[simp, go_sem] theorem PZ194_55 : PZ194[55]? = some (.int .i8 0) := by kernel_rfl
@[simp, go_sem] theorem PZ194_56 : PZ194[56]? = some (.map none) := by kernel_rfl
@[simp, go_sem] theorem PZ194_57 : PZ194[57]? = some (.string ⟨#[]⟩) := by kernel_rfl
@[simp, go_sem] theorem PZ194_58 : PZ194[58]? = some (.string ⟨#[]⟩) := by kernel_rfl
@[simp, go_sem] theorem PZ194_59 : PZ194[59]? = some (.string ⟨#[]⟩) := by kernel_rfl
@[simp, go_sem] theorem PZ194_60 : PZ194[60]? = some (.string ⟨#[]⟩) := by kernel_rfl
@[simp, go_sem] theorem PZ194_61 : PZ194[61]? = some (.string ⟨#[]⟩) := by kernel_rfl
@[simp, go_sem] theorem PZ194_62 : PZ194[62]? = some (.string ⟨#[]⟩) := by kernel_rfl
@[simp, go_sem] theorem PZ194_63 : PZ194[63]? = some (.string ⟨#[]⟩) := by kernel_rfl
@[simp, go_sem] theorem PZ194_64 : PZ194[64]? = some (.string ⟨#[]⟩) := by kernel_rfl
@[simp, go_sem] theorem PZ194_65 : PZ194[65]? = some (.int .u8 0) := by kernel_rfl
@[simp, go_sem] theorem PZ194_66 : PZ194[66]? = some (.int .u32 0) := by kernel_rfl
@[simp, go_sem] theorem PZ194_67 : PZ194[67]? = some (.string ⟨#[]⟩) := by kernel_rfl
@[simp, go_sem] theorem PZ194_68 : PZ194[68]? = some (.string ⟨#[]⟩) := by kernel_rfl
@[simp, go_sem] theorem PZ194_69 : PZ194[69]? = some (.string ⟨#[]⟩) := by kernel_rfl
@[simp, go_sem] theorem PZ194_70 : PZ194[70]? = some (.int .i32 0) := by kernel_rfl
@[simp, go_sem] theorem PZ194_71 : PZ194[71]? = some (.int .i32 0) := by kernel_rfl
@[simp, go_sem] theorem PZ194_72 : PZ194[72]? = some (.int .i32 0) := by kernel_rfl
@[simp, go_sem] theorem PZ194_73 : PZ194[73]? = some (.int .i32 0) := by kernel_rfl
@[simp, go_sem] theorem PZ194_74 : PZ194[74]? = some (.bool false) := by kernel_rfl
@[simp, go_sem] theorem PZ194_75 : PZ194[75]? = some (.bool false) := by kernel_rfl
@[simp, go_sem] theorem PZ194_76 : PZ194[76]? = some (.bool false) := by kernel_rfl
@[simp, go_sem] theorem PZ194_77 : PZ194[77]? = some (.pointer none) := by kernel_rfl
@[simp, go_sem] theorem PZ194_78 : PZ194[78]? = some (.pointer none) := by kernel_rfl
@[simp, go_sem] theorem PZ194_79 : PZ194[79]? = some (.int .i32 0) := by kernel_rfl
@[simp, go_sem] theorem PZ194_80 : PZ194[80]? = some (.int .i32 0) := by kernel_rfl
@[simp, go_sem] theorem PZ194_81 : PZ194[81]? = some (.int .i32 0) := by kernel_rfl
@[simp, go_sem] theorem PZ194_82 : PZ194[82]? = some (.int .u8 0) := by kernel_rfl
@[simp, go_sem] theorem PZ194_83 : PZ194[83]? = some (.int .u8 0) := by kernel_rfl
@[simp, go_sem] theorem PZ194_84 : PZ194[84]? = some (.bool false) := by kernel_rfl
@[simp, go_sem] theorem PZ194_85 : PZ194[85]? = some (.bool false) := by kernel_rfl
@[simp, go_sem] theorem PZ194_86 : PZ194[86]? = some (.bool false) := by kernel_rfl
@[simp, go_sem] theorem PZ194_87 : PZ194[87]? = some (.bool false) := by kernel_rfl
@[simp, go_sem] theorem PZ194_88 : PZ194[88]? = some (.bool false) := by kernel_rfl
@[simp, go_sem] theorem PZ194_89 : PZ194[89]? = some (.bool false) := by kernel_rfl
@[simp, go_sem] theorem PZ194_90 : PZ194[90]? = some (.bool false) := by kernel_rfl
@[simp, go_sem] theorem PZ194_91 : PZ194[91]? = some (.bool false) := by kernel_rfl
@[simp, go_sem] theorem PZ194_92 : PZ194[92]? = some (.pointer none) := by kernel_rfl
@[simp, go_sem] theorem PZ194_93 : PZ194[93]? = some (.pointer none) := by kernel_rfl
@[simp, go_sem] theorem PZ194_94 : PZ194[94]? = some (.pointer none) := by kernel_rfl
@[simp, go_sem] theorem PZ194_95 : PZ194[95]? = some (.bool false) := by kernel_rfl
@[simp, go_sem] theorem PZ194_96 : PZ194[96]? = some (.bool false) := by kernel_rfl
@[simp, go_sem] theorem PZ194_97 : PZ194[97]? = some (.pointer none) := by kernel_rfl
@[simp, go_sem] theorem PZ194_98 : PZ194[98]? = some (.bool false) := by kernel_rfl
@[simp, go_sem] theorem PZ194_99 : PZ194[99]? = some (.bool false) := by kernel_rfl
@[simp, go_sem] theorem PZ194_100 : PZ194[100]? = some (.bool false) := by kernel_rfl
@[simp, go_sem] theorem PZ194_101 : PZ194[101]? = some (.bool false) := by kernel_rfl
@[simp, go_sem] theorem PZ194_102 : PZ194[102]? = some (.bool false) := by kernel_rfl
@[simp, go_sem] theorem PZ194_103 : PZ194[103]? = some (.slice none 0 0) := by kernel_rfl
@[simp, go_sem] theorem PZ194_104 : PZ194[104]? = some (.pointer none) := by kernel_rfl
@[simp, go_sem] theorem PZ194_105 : PZ194[105]? = some (.pointer none) := by kernel_rfl
@[simp, go_sem] theorem PZ194_106 : PZ194[106]? = some (.slice none 0 0) := by kernel_rfl
@[simp, go_sem] theorem PZ194_107 : PZ194[107]? = some (.nilFunc) := by kernel_rfl
@[simp, go_sem] theorem PZ194_108 : PZ194[108]? = some (.slice none 0 0) := by kernel_rfl
@[simp, go_sem] theorem PZ194_109 : PZ194[109]? = some (.slice none 0 0) := by kernel_rfl
@[simp, go_sem] theorem PZ194_110 : PZ194[110]? = some (.map none) := by kernel_rfl
@[simp, go_sem] theorem PZ194_111 : PZ194[111]? = some (.map none) := by kernel_rfl
@[simp, go_sem] theorem PZ194_112 : PZ194[112]? = some (.map none) := by kernel_rfl
@[simp, go_sem] theorem PZ194_113 : PZ194[113]? = some (.map none) := by kernel_rfl
@[simp, go_sem] theorem PZ194_114 : PZ194[114]? = some (.map none) := by kernel_rfl
@[simp, go_sem] theorem PZ194_115 : PZ194[115]? = some (.map none) := by kernel_rfl
@[simp, go_sem] theorem PZ194_116 : PZ194[116]? = some (.slice none 0 0) := by kernel_rfl
@[simp, go_sem] theorem PZ194_117 : PZ194[117]? = some (.map none) := by kernel_rfl
@[simp, go_sem] theorem PZ194_118 : PZ194[118]? = some (.slice none 0 0) := by kernel_rfl
@[simp, go_sem] theorem PZ194_119 : PZ194[119]? = some (.int .u8 0) := by kernel_rfl
@[simp, go_sem] theorem PZ194_120 : PZ194[120]? = some (.int .u8 0) := by kernel_rfl
@[simp, go_sem] theorem PZ194_121 : PZ194[121]? = some (.int .u8 0) := by kernel_rfl
@[simp, go_sem] theorem PZ194_122 : PZ194[122]? = some (.int .u8 0) := by kernel_rfl
@[simp, go_sem] theorem PZ194_123 : PZ194[123]? = some (.int .u8 0) := by kernel_rfl
@[simp, go_sem] theorem PZ194_124 : PZ194[124]? = some (.int .u8 0) := by kernel_rfl
@[simp, go_sem] theorem PZ194_125 : PZ194[125]? = some (.int .u8 0) := by kernel_rfl
@[simp, go_sem] theorem PZ194_126 : PZ194[126]? = some (.int .u8 0) := by kernel_rfl
@[simp, go_sem] theorem PZ194_127 : PZ194[127]? = some (.int .u8 0) := by kernel_rfl
@[simp, go_sem] theorem PZ194_128 : PZ194[128]? = some (.int .u8 0) := by kernel_rfl
@[simp, go_sem] theorem PZ194_129 : PZ194[129]? = some (.int .u8 0) := by kernel_rfl
@[simp, go_sem] theorem PZ194_130 : PZ194[130]? = some (.int .u8 0) := by kernel_rfl
@[simp, go_sem] theorem PZ194_131 : PZ194[131]? = some (.int .u8 0) := by kernel_rfl
@[simp, go_sem] theorem PZ194_132 : PZ194[132]? = some (.int .u8 0) := by kernel_rfl
@[simp, go_sem] theorem PZ194_133 : PZ194[133]? = some (.int .u8 0) := by kernel_rfl
@[simp, go_sem] theorem PZ194_134 : PZ194[134]? = some (.int .u8 0) := by kernel_rfl
@[simp, go_sem] theorem PZ194_135 : PZ194[135]? = some (.int .u8 0) := by kernel_rfl
@[simp, go_sem] theorem PZ194_136 : PZ194[136]? = some (.int .u8 0) := by kernel_rfl
@[simp, go_sem] theorem PZ194_137 : PZ194[137]? = some (.int .u8 0) := by kernel_rfl
@[simp, go_sem] theorem PZ194_138 : PZ194[138]? = some (.int .u8 0) := by kernel_rfl
@[simp, go_sem] theorem PZ194_139 : PZ194[139]? = some (.int .u8 0) := by kernel_rfl
@[simp, go_sem] theorem PZ194_140 : PZ194[140]? = some (.int .u8 0) := by kernel_rfl
@[simp, go_sem] theorem PZ194_141 : PZ194[141]? = some (.int .u8 0) := by kernel_rfl
@[simp, go_sem] theorem PZ194_142 : PZ194[142]? = some (.int .u8 0) := by kernel_rfl
@[simp, go_sem] theorem PZ194_143 : PZ194[143]? = some (.int .u8 0) := by kernel_rfl
@[simp, go_sem] theorem PZ194_144 : PZ194[144]? = some (.int .u8 0) := by kernel_rfl
@[simp, go_sem] theorem PZ194_145 : PZ194[145]? = some (.int .u8 0) := by kernel_rfl
@[simp, go_sem] theorem PZ194_146 : PZ194[146]? = some (.int .u8 0) := by kernel_rfl
@[simp, go_sem] theorem PZ194_147 : PZ194[147]? = some (.int .u8 0) := by kernel_rfl
@[simp, go_sem] theorem PZ194_148 : PZ194[148]? = some (.int .u8 0) := by kernel_rfl
@[simp, go_sem] theorem PZ194_149 : PZ194[149]? = some (.int .u8 0) := by kernel_rfl
@[simp, go_sem] theorem PZ194_150 : PZ194[150]? = some (.int .u8 0) := by kernel_rfl
@[simp, go_sem] theorem PZ194_151 : PZ194[151]? = some (.map none) := by kernel_rfl
@[simp, go_sem] theorem PZ194_152 : PZ194[152]? = some (.map none) := by kernel_rfl
@[simp, go_sem] theorem PZ194_153 : PZ194[153]? = some (.map none) := by kernel_rfl
@[simp, go_sem] theorem PZ194_154 : PZ194[154]? = some (.slice none 0 0) := by kernel_rfl
@[simp, go_sem] theorem PZ194_155 : PZ194[155]? = some (.map none) := by kernel_rfl
@[simp, go_sem] theorem PZ194_156 : PZ194[156]? = some (.map none) := by kernel_rfl
@[simp, go_sem] theorem PZ194_157 : PZ194[157]? = some (.map none) := by kernel_rfl
@[simp, go_sem] theorem PZ194_158 : PZ194[158]? = some (.map none) := by kernel_rfl
@[simp, go_sem] theorem PZ194_159 : PZ194[159]? = some (.nilIface) := by kernel_rfl
@[simp, go_sem] theorem PZ194_160 : PZ194[160]? = some (.nilIface) := by kernel_rfl
@[simp, go_sem] theorem PZ194_161 : PZ194[161]? = some (.map none) := by kernel_rfl
@[simp, go_sem] theorem PZ194_162 : PZ194[162]? = some (.map none) := by kernel_rfl
@[simp, go_sem] theorem PZ194_163 : PZ194[163]? = some (.map none) := by kernel_rfl
@[simp, go_sem] theorem PZ194_164 : PZ194[164]? = some (.map none) := by kernel_rfl
@[simp, go_sem] theorem PZ194_165 : PZ194[165]? = some (.map none) := by kernel_rfl
@[simp, go_sem] theorem PZ194_166 : PZ194[166]? = some (.nilIface) := by kernel_rfl
@[simp, go_sem] theorem PZ194_167 : PZ194[167]? = some (.pointer none) := by kernel_rfl
@[simp, go_sem] theorem PZ194_168 : PZ194[168]? = some (.pointer none) := by kernel_rfl
@[simp, go_sem] theorem PZ194_169 : PZ194[169]? = some (.slice none 0 0) := by kernel_rfl
@[simp, go_sem] theorem PZ194_170 : PZ194[170]? = some (.slice none 0 0) := by kernel_rfl
@[simp, go_sem] theorem PZ194_171 : PZ194[171]? = some (.map none) := by kernel_rfl
@[simp, go_sem] theorem PZ194_172 : PZ194[172]? = some (.map none) := by kernel_rfl
@[simp, go_sem] theorem PZ194_173 : PZ194[173]? = some (.map none) := by kernel_rfl
@[simp, go_sem] theorem PZ194_174 : PZ194[174]? = some (.map none) := by kernel_rfl
@[simp, go_sem] theorem PZ194_175 : PZ194[175]? = some (.map none) := by kernel_rfl
@[simp, go_sem] theorem PZ194_176 : PZ194[176]? = some (.map none) := by kernel_rfl
@[simp, go_sem] theorem PZ194_177 : PZ194[177]? = some (.slice none 0 0) := by kernel_rfl
@[simp, go_sem] theorem PZ194_178 : PZ194[178]? = some (.string ⟨#[]⟩) := by kernel_rfl
@[simp, go_sem] theorem PZ194_179 : PZ194[179]? = some (.nilIface) := by kernel_rfl
@[simp, go_sem] theorem PZ194_180 : PZ194[180]? = some (.nilIface) := by kernel_rfl
@[simp, go_sem] theorem PZ194_181 : PZ194[181]? = some (.nilIface) := by kernel_rfl
@[simp, go_sem] theorem PZ194_182 : PZ194[182]? = some (.nilIface) := by kernel_rfl
@[simp, go_sem] theorem PZ194_183 : PZ194[183]? = some (.nilIface) := by kernel_rfl
@[simp, go_sem] theorem PZ194_184 : PZ194[184]? = some (.nilIface) := by kernel_rfl
@[simp, go_sem] theorem PZ194_185 : PZ194[185]? = some (.nilIface) := by kernel_rfl
@[simp, go_sem] theorem PZ194_186 : PZ194[186]? = some (.nilIface) := by kernel_rfl
@[simp, go_sem] theorem PZ194_187 : PZ194[187]? = some (.pointer none) := by kernel_rfl
@[simp, go_sem] theorem PZ194_188 : PZ194[188]? = some (.nilIface) := by kernel_rfl
@[simp, go_sem] theorem PZ194_189 : PZ194[189]? = some (.int .i32 0) := by kernel_rfl
@[simp, go_sem] theorem PZ194_190 : PZ194[190]? = some (.map none) := by kernel_rfl
@[simp, go_sem] theorem PZ194_191 : PZ194[191]? = some (.nilIface) := by kernel_rfl
@[simp, go_sem] theorem PZ194_192 : PZ194[192]? = some (.nilIface) := by kernel_rfl
@[simp, go_sem] theorem PZ194_193 : PZ194[193]? = some (.int .i32 0) := by kernel_rfl
@[simp, go_sem] theorem PZ194_194 : PZ194[194]? = some (.bool false) := by kernel_rfl
@[simp, go_sem] theorem PZ194_195 : PZ194[195]? = some (.bool false) := by kernel_rfl
@[simp, go_sem] theorem PZ194_196 : PZ194[196]? = some (.slice none 0 0) := by kernel_rfl
@[simp, go_sem] theorem PZ194_197 : PZ194[197]? = some (.map none) := by kernel_rfl
@[simp, go_sem] theorem PZ194_198 : PZ194[198]? = some (.slice none 0 0) := by kernel_rfl
@[simp, go_sem] theorem PZ194_199 : PZ194[199]? = some (.slice none 0 0) := by kernel_rfl
@[simp, go_sem] theorem PZ194_200 : PZ194[200]? = some (.slice none 0 0) := by kernel_rfl
@[simp, go_sem] theorem PZ194_201 : PZ194[201]? = some (.slice none 0 0) := by kernel_rfl
@[simp, go_sem] theorem PZ194_202 : PZ194[202]? = some (.slice none 0 0) := by kernel_rfl
@[simp, go_sem] theorem PZ194_203 : PZ194[203]? = some (.slice none 0 0) := by kernel_rfl
@[simp, go_sem] theorem PZ194_204 : PZ194[204]? = some (.string ⟨#[]⟩) := by kernel_rfl
@[simp, go_sem] theorem PZ194_205 : PZ194[205]? = some (.int .u32 0) := by kernel_rfl
@[simp, go_sem] theorem PZ194_206 : PZ194[206]? = some (.nilFunc) := by kernel_rfl
@[simp, go_sem] theorem PZ194_207 : PZ194[207]? = some (.nilFunc) := by kernel_rfl
@[simp, go_sem] theorem PZ194_208 : PZ194[208]? = some (.nilFunc) := by kernel_rfl
@[simp, go_sem] theorem PZ194_209 : PZ194[209]? = some (.nilFunc) := by kernel_rfl
@[simp, go_sem] theorem PZ194_210 : PZ194[210]? = some (.int .i8 0) := by kernel_rfl
@[simp, go_sem] theorem PZ194_211 : PZ194[211]? = some (.map none) := by kernel_rfl
@[simp, go_sem] theorem PZ194_212 : PZ194[212]? = some (.string ⟨#[]⟩) := by kernel_rfl
@[simp, go_sem] theorem PZ194_213 : PZ194[213]? = some (.string ⟨#[]⟩) := by kernel_rfl
@[simp, go_sem] theorem PZ194_214 : PZ194[214]? = some (.string ⟨#[]⟩) := by kernel_rfl
@[simp, go_sem] theorem PZ194_215 : PZ194[215]? = some (.string ⟨#[]⟩) := by kernel_rfl
@[simp, go_sem] theorem PZ194_216 : PZ194[216]? = some (.string ⟨#[]⟩) := by kernel_rfl
@[simp, go_sem] theorem PZ194_217 : PZ194[217]? = some (.string ⟨#[]⟩) := by kernel_rfl
@[simp, go_sem] theorem PZ194_218 : PZ194[218]? = some (.string ⟨#[]⟩) := by kernel_rfl
@[simp, go_sem] theorem PZ194_219 : PZ194[219]? = some (.string ⟨#[]⟩) := by kernel_rfl
@[simp, go_sem] theorem PZ194_220 : PZ194[220]? = some (.int .u8 0) := by kernel_rfl
@[simp, go_sem] theorem PZ194_221 : PZ194[221]? = some (.int .u32 0) := by kernel_rfl
@[simp, go_sem] theorem PZ194_222 : PZ194[222]? = some (.string ⟨#[]⟩) := by kernel_rfl
@[simp, go_sem] theorem PZ194_223 : PZ194[223]? = some (.int .i32 0) := by kernel_rfl
@[simp, go_sem] theorem PZ194_224 : PZ194[224]? = some (.int .i32 0) := by kernel_rfl
@[simp, go_sem] theorem PZ194_225 : PZ194[225]? = some (.string ⟨#[]⟩) := by kernel_rfl
@[simp, go_sem] theorem PZ194_226 : PZ194[226]? = some (.int .i32 0) := by kernel_rfl
@[simp, go_sem] theorem PZ194_227 : PZ194[227]? = some (.int .i32 0) := by kernel_rfl
@[simp, go_sem] theorem PZ194_228 : PZ194[228]? = some (.string ⟨#[]⟩) := by kernel_rfl
@[simp, go_sem] theorem PZ194_229 : PZ194[229]? = some (.int .i32 0) := by kernel_rfl
@[simp, go_sem] theorem PZ194_230 : PZ194[230]? = some (.int .i32 0) := by kernel_rfl
@[simp, go_sem] theorem PZ194_231 : PZ194[231]? = some (.string ⟨#[]⟩) := by kernel_rfl
@[simp, go_sem] theorem PZ194_232 : PZ194[232]? = some (.int .i32 0) := by kernel_rfl
@[simp, go_sem] theorem PZ194_233 : PZ194[233]? = some (.int .i32 0) := by kernel_rfl
@[simp, go_sem] theorem PZ194_234 : PZ194[234]? = some (.string ⟨#[]⟩) := by kernel_rfl
@[simp, go_sem] theorem PZ194_235 : PZ194[235]? = some (.int .i32 0) := by kernel_rfl
@[simp, go_sem] theorem PZ194_236 : PZ194[236]? = some (.int .i32 0) := by kernel_rfl
@[simp, go_sem] theorem PZ194_237 : PZ194[237]? = some (.string ⟨#[]⟩) := by kernel_rfl
@[simp, go_sem] theorem PZ194_238 : PZ194[238]? = some (.slice none 0 0) := by kernel_rfl
@[simp, go_sem] theorem PZ194_239 : PZ194[239]? = some (.string ⟨#[]⟩) := by kernel_rfl
@[simp, go_sem] theorem PZ194_240 : PZ194[240]? = some (.string ⟨#[]⟩) := by kernel_rfl
@[simp, go_sem] theorem PZ194_241 : PZ194[241]? = some (.string ⟨#[]⟩) := by kernel_rfl
@[simp, go_sem] theorem PZ194_242 : PZ194[242]? = some (.string ⟨#[]⟩) := by kernel_rfl
@[simp, go_sem] theorem PZ194_243 : PZ194[243]? = some (.string ⟨#[]⟩) := by kernel_rfl
@[simp, go_sem] theorem PZ194_244 : PZ194[244]? = some (.int .i32 0) := by kernel_rfl
@[simp, go_sem] theorem PZ194_245 : PZ194[245]? = some (.int .i32 0) := by kernel_rfl
@[simp, go_sem] theorem PZ194_246 : PZ194[246]? = some (.int .i32 0) := by kernel_rfl
@[simp, go_sem] theorem PZ194_247 : PZ194[247]? = some (.int .i32 0) := by kernel_rfl
@[simp, go_sem] theorem PZ194_248 : PZ194[248]? = some (.bool false) := by kernel_rfl
@[simp, go_sem] theorem PZ194_249 : PZ194[249]? = some (.bool false) := by kernel_rfl
@[simp, go_sem] theorem PZ194_250 : PZ194[250]? = some (.bool false) := by kernel_rfl
@[simp, go_sem] theorem PZ194_251 : PZ194[251]? = some (.int .i64 0) := by kernel_rfl
@[simp, go_sem] theorem PZ194_252 : PZ194[252]? = some (.float .f64 0) := by kernel_rfl
@[simp, go_sem] theorem PZ194_253 : PZ194[253]? = some (.int .i64 0) := by kernel_rfl
@[simp, go_sem] theorem PZ194_254 : PZ194[254]? = some (.int .i64 0) := by kernel_rfl
@[simp, go_sem] theorem PZ194_255 : PZ194[255]? = some (.int .i64 0) := by kernel_rfl
@[simp, go_sem] theorem PZ194_256 : PZ194[256]? = some (.int .i64 0) := by kernel_rfl
@[simp, go_sem] theorem PZ194_257 : PZ194[257]? = some (.int .i64 0) := by kernel_rfl
@[simp, go_sem] theorem PZ194_258 : PZ194[258]? = some (.int .i32 0) := by kernel_rfl
@[simp, go_sem] theorem PZ194_259 : PZ194[259]? = some (.int .i32 0) := by kernel_rfl
@[simp, go_sem] theorem PZ194_260 : PZ194[260]? = some (.int .i32 0) := by kernel_rfl
@[simp, go_sem] theorem PZ194_261 : PZ194[261]? = some (.int .i32 0) := by kernel_rfl
@[simp, go_sem] theorem PZ194_262 : PZ194[262]? = some (.int .i32 0) := by kernel_rfl
@[simp, go_sem] theorem PZ194_263 : PZ194[263]? = some (.int .i32 0) := by kernel_rfl
@[simp, go_sem] theorem PZ194_264 : PZ194[264]? = some (.int .i32 0) := by kernel_rfl
@[simp, go_sem] theorem PZ194_265 : PZ194[265]? = some (.int .i32 0) := by kernel_rfl
@[simp, go_sem] theorem PZ194_266 : PZ194[266]? = some (.int .i32 0) := by kernel_rfl
@[simp, go_sem] theorem PZ194_267 : PZ194[267]? = some (.int .i32 0) := by kernel_rfl
@[simp, go_sem] theorem PZ194_268 : PZ194[268]? = some (.int .i32 0) := by kernel_rfl
@[simp, go_sem] theorem PZ194_269 : PZ194[269]? = some (.int .u8 0) := by kernel_rfl
@[simp, go_sem] theorem PZ194_270 : PZ194[270]? = some (.int .u8 0) := by kernel_rfl
@[simp, go_sem] theorem PZ194_271 : PZ194[271]? = some (.int .u8 0) := by kernel_rfl
@[simp, go_sem] theorem PZ194_272 : PZ194[272]? = some (.int .u8 0) := by kernel_rfl
@[simp, go_sem] theorem PZ194_273 : PZ194[273]? = some (.int .u8 0) := by kernel_rfl
@[simp, go_sem] theorem PZ194_274 : PZ194[274]? = some (.int .u8 0) := by kernel_rfl
@[simp, go_sem] theorem PZ194_275 : PZ194[275]? = some (.int .u8 0) := by kernel_rfl
@[simp, go_sem] theorem PZ194_276 : PZ194[276]? = some (.int .u8 0) := by kernel_rfl
@[simp, go_sem] theorem PZ194_277 : PZ194[277]? = some (.bool false) := by kernel_rfl
@[simp, go_sem] theorem PZ194_278 : PZ194[278]? = some (.bool false) := by kernel_rfl
@[simp, go_sem] theorem PZ194_279 : PZ194[279]? = some (.bool false) := by kernel_rfl
@[simp, go_sem] theorem PZ194_280 : PZ194[280]? = some (.int .u8 0) := by kernel_rfl
@[simp, go_sem] theorem PZ194_281 : PZ194[281]? = some (.bool false) := by kernel_rfl
@[simp, go_sem] theorem PZ194_282 : PZ194[282]? = some (.bool false) := by kernel_rfl
@[simp, go_sem] theorem PZ194_283 : PZ194[283]? = some (.bool false) := by kernel_rfl
@[simp, go_sem] theorem PZ194_284 : PZ194[284]? = some (.bool false) := by kernel_rfl
@[simp, go_sem] theorem PZ194_285 : PZ194[285]? = some (.bool false) := by kernel_rfl
@[simp, go_sem] theorem PZ194_286 : PZ194[286]? = some (.int .i64 0) := by kernel_rfl
@[simp, go_sem] theorem PZ194_287 : PZ194[287]? = some (.int .i64 0) := by kernel_rfl
@[simp, go_sem] theorem PZ194_288 : PZ194[288]? = some (.int .i64 0) := by kernel_rfl
@[simp, go_sem] theorem PZ194_289 : PZ194[289]? = some (.int .i64 0) := by kernel_rfl
@[simp, go_sem] theorem PZ194_290 : PZ194[290]? = some (.int .i64 0) := by kernel_rfl
@[simp, go_sem] theorem PZ194_291 : PZ194[291]? = some (.int .i64 0) := by kernel_rfl
@[simp, go_sem] theorem PZ194_292 : PZ194[292]? = some (.int .u32 0) := by kernel_rfl
@[simp, go_sem] theorem PZ194_293 : PZ194[293]? = some (.int .u32 0) := by kernel_rfl
@[simp, go_sem] theorem PZ194_294 : PZ194[294]? = some (.int .u32 0) := by kernel_rfl
@[simp, go_sem] theorem PZ194_295 : PZ194[295]? = some (.int .u32 0) := by kernel_rfl
@[simp, go_sem] theorem PZ194_296 : PZ194[296]? = some (.int .u32 0) := by kernel_rfl
@[simp, go_sem] theorem PZ194_297 : PZ194[297]? = some (.int .u32 0) := by kernel_rfl
@[simp, go_sem] theorem PZ194_298 : PZ194[298]? = some (.int .u32 0) := by kernel_rfl
@[simp, go_sem] theorem PZ194_299 : PZ194[299]? = some (.int .u32 0) := by kernel_rfl
@[simp, go_sem] theorem PZ194_300 : PZ194[300]? = some (.int .u32 0) := by kernel_rfl
@[simp, go_sem] theorem PZ194_301 : PZ194[301]? = some (.int .u32 0) := by kernel_rfl
@[simp, go_sem] theorem PZ194_302 : PZ194[302]? = some (.int .u32 0) := by kernel_rfl
@[simp, go_sem] theorem PZ194_303 : PZ194[303]? = some (.int .u32 0) := by kernel_rfl
@[simp, go_sem] theorem PZ194_304 : PZ194[304]? = some (.int .u32 0) := by kernel_rfl
@[simp, go_sem] theorem PZ194_305 : PZ194[305]? = some (.int .u32 0) := by kernel_rfl
@[simp, go_sem] theorem PZ194_306 : PZ194[306]? = some (.int .u32 0) := by kernel_rfl
@[simp, go_sem] theorem PZ194_307 : PZ194[307]? = some (.int .u32 0) := by kernel_rfl
@[simp, go_sem] theorem PZ194_308 : PZ194[308]? = some (.map none) := by kernel_rfl
@[simp, go_sem] theorem PZ194_309 : PZ194[309]? = some (.map none) := by kernel_rfl
@[simp, go_sem] theorem PZ194_310 : PZ194[310]? = some (.int .u32 0) := by kernel_rfl
@[simp, go_sem] theorem PZ194_311 : PZ194[311]? = some (.int .u32 0) := by kernel_rfl
@[simp, go_sem] theorem PZ194_312 : PZ194[312]? = some (.int .u32 0) := by kernel_rfl
@[simp, go_sem] theorem PZ194_313 : PZ194[313]? = some (.int .u32 0) := by kernel_rfl
@[simp, go_sem] theorem PZ194_314 : PZ194[314]? = some (.int .i32 0) := by kernel_rfl
@[simp, go_sem] theorem PZ194_315 : PZ194[315]? = some (.int .i32 0) := by kernel_rfl
@[simp, go_sem] theorem PZ194_316 : PZ194[316]? = some (.int .i32 0) := by kernel_rfl
@[simp, go_sem] theorem PZ194_317 : PZ194[317]? = some (.int .i32 0) := by kernel_rfl
@[simp, go_sem] theorem PZ194_318 : PZ194[318]? = some (.int .i32 0) := by kernel_rfl
@[simp, go_sem] theorem PZ194_319 : PZ194[319]? = some (.int .i32 0) := by kernel_rfl
@[simp, go_sem] theorem PZ194_320 : PZ194[320]? = some (.int .i32 0) := by kernel_rfl
@[simp, go_sem] theorem PZ194_321 : PZ194[321]? = some (.int .i32 0) := by kernel_rfl
@[simp, go_sem] theorem PZ194_322 : PZ194[322]? = some (.int .i32 0) := by kernel_rfl
@[simp, go_sem] theorem PZ194_323 : PZ194[323]? = some (.int .i32 0) := by kernel_rfl
@[simp, go_sem] theorem PZ194_324 : PZ194[324]? = some (.int .i32 0) := by kernel_rfl
@[simp, go_sem] theorem PZ194_325 : PZ194[325]? = some (.int .i32 0) := by kernel_rfl
@[simp, go_sem] theorem PZ194_326 : PZ194[326]? = some (.int .i32 0) := by kernel_rfl
@[simp, go_sem] theorem PZ194_327 : PZ194[327]? = some (.int .i32 0) := by kernel_rfl
@[simp, go_sem] theorem PZ194_328 : PZ194[328]? = some (.int .i32 0) := by kernel_rfl
@[simp, go_sem] theorem PZ194_329 : PZ194[329]? = some (.int .i32 0) := by kernel_rfl
@[simp, go_sem] theorem PZ194_330 : PZ194[330]? = some (.int .i32 0) := by kernel_rfl
@[simp, go_sem] theorem PZ194_331 : PZ194[331]? = some (.bool false) := by kernel_rfl
@[simp, go_sem] theorem PZ194_332 : PZ194[332]? = some (.bool false) := by kernel_rfl
@[simp, go_sem] theorem PZ194_333 : PZ194[333]? = some (.bool false) := by kernel_rfl
@[simp, go_sem] theorem PZ194_334 : PZ194[334]? = some (.bool false) := by kernel_rfl
@[simp, go_sem] theorem PZ194_335 : PZ194[335]? = some (.bool false) := by kernel_rfl
@[simp, go_sem] theorem PZ194_336 : PZ194[336]? = some (.bool false) := by kernel_rfl
@[simp, go_sem] theorem PZ194_337 : PZ194[337]? = some (.bool false) := by kernel_rfl
@[simp, go_sem] theorem PZ194_338 : PZ194[338]? = some (.bool false) := by kernel_rfl
@[simp, go_sem] theorem PZ194_339 : PZ194[339]? = some (.int .i64 0) := by kernel_rfl
@[simp, go_sem] theorem PZ194_340 : PZ194[340]? = some (.int .i32 0) := by kernel_rfl
@[simp, go_sem] theorem PZ194_341 : PZ194[341]? = some (.bool false) := by kernel_rfl
@[simp, go_sem] theorem PZ194_342 : PZ194[342]? = some (.bool false) := by kernel_rfl
@[simp, go_sem] theorem PZ194_343 : PZ194[343]? = some (.bool false) := by kernel_rfl
@[simp, go_sem] theorem PZ194_344 : PZ194[344]? = some (.bool false) := by kernel_rfl
@[simp, go_sem] theorem PZ194_345 : PZ194[345]? = some (.bool false) := by kernel_rfl
@[simp, go_sem] theorem PZ194_346 : PZ194[346]? = some (.bool false) := by kernel_rfl
@[simp, go_sem] theorem PZ194_347 : PZ194[347]? = some (.bool false) := by kernel_rfl
@[simp, go_sem] theorem PZ194_348 : PZ194[348]? = some (.bool false) := by kernel_rfl
@[simp, go_sem] theorem PZ194_349 : PZ194[349]? = some (.bool false) := by kernel_rfl
@[simp, go_sem] theorem PZ194_350 : PZ194[350]? = some (.bool false) := by kernel_rfl
@[simp, go_sem] theorem PZ194_351 : PZ194[351]? = some (.bool false) := by kernel_rfl
@[simp, go_sem] theorem PZ194_352 : PZ194[352]? = some (.bool false) := by kernel_rfl
@[go_sem ↓] theorem fa194_0 (b o : Nat) (w : World) : (Instr.fieldAt 194 (.pointer (some ⟨b, o, none⟩)) 0).run Tryd.prog w = .ok (.pointer (some ⟨b, o, none⟩)) w := by kernel_rfl
@[go_sem ↓] theorem fa194_1 (b o : Nat) (w : World) : (Instr.fieldAt 194 (.pointer (some ⟨b, o, none⟩)) 1).run Tryd.prog w = .ok (.pointer (some ⟨b, o + 51, none⟩)) w := by kernel_rfl
@[go_sem ↓] theorem fa194_2 (b o : Nat) (w : World) : (Instr.fieldAt 194 (.pointer (some ⟨b, o, none⟩)) 2).run Tryd.prog w = .ok (.pointer (some ⟨b, o + 57, none⟩)) w := by kernel_rfl
@[go_sem ↓] theorem fa194_3 (b o : Nat) (w : World) : (Instr.fieldAt 194 (.pointer (some ⟨b, o, none⟩)) 3).run Tryd.prog w = .ok (.pointer (some ⟨b, o + 67, none⟩)) w := by kernel_rfl
@[go_sem ↓] theorem fa194_4 (b o : Nat) (w : World) : (Instr.fieldAt 194 (.pointer (some ⟨b, o, none⟩)) 4).run Tryd.prog w = .ok (.pointer (some ⟨b, o + 77, none⟩)) w := by kernel_rfl
@[go_sem ↓] theorem fa194_5 (b o : Nat) (w : World) : (Instr.fieldAt 194 (.pointer (some ⟨b, o, none⟩)) 5).run Tryd.prog w = .ok (.pointer (some ⟨b, o + 92, none⟩)) w := by kernel_rfl
@[go_sem ↓] theorem fa194_6 (b o : Nat) (w : World) : (Instr.fieldAt 194 (.pointer (some ⟨b, o, none⟩)) 6).run Tryd.prog w = .ok (.pointer (some ⟨b, o + 103, none⟩)) w := by kernel_rfl
@[go_sem ↓] theorem fa194_7 (b o : Nat) (w : World) : (Instr.fieldAt 194 (.pointer (some ⟨b, o, none⟩)) 7).run Tryd.prog w = .ok (.pointer (some ⟨b, o + 104, none⟩)) w := by kernel_rfl
@[go_sem ↓] theorem fa194_8 (b o : Nat) (w : World) : (Instr.fieldAt 194 (.pointer (some ⟨b, o, none⟩)) 8).run Tryd.prog w = .ok (.pointer (some ⟨b, o + 105, none⟩)) w := by kernel_rfl
@[go_sem ↓] theorem fa194_9 (b o : Nat) (w : World) : (Instr.fieldAt 194 (.pointer (some ⟨b, o, none⟩)) 9).run Tryd.prog w = .ok (.pointer (some ⟨b, o + 106, none⟩)) w := by kernel_rfl
@[go_sem ↓] theorem fa194_10 (b o : Nat) (w : World) : (Instr.fieldAt 194 (.pointer (some ⟨b, o, none⟩)) 10).run Tryd.prog w = .ok (.pointer (some ⟨b, o + 107, none⟩)) w := by kernel_rfl
@[go_sem ↓] theorem fa194_11 (b o : Nat) (w : World) : (Instr.fieldAt 194 (.pointer (some ⟨b, o, none⟩)) 11).run Tryd.prog w = .ok (.pointer (some ⟨b, o + 108, none⟩)) w := by kernel_rfl
@[go_sem ↓] theorem fa194_12 (b o : Nat) (w : World) : (Instr.fieldAt 194 (.pointer (some ⟨b, o, none⟩)) 12).run Tryd.prog w = .ok (.pointer (some ⟨b, o + 109, none⟩)) w := by kernel_rfl
@[go_sem ↓] theorem fa194_13 (b o : Nat) (w : World) : (Instr.fieldAt 194 (.pointer (some ⟨b, o, none⟩)) 13).run Tryd.prog w = .ok (.pointer (some ⟨b, o + 110, none⟩)) w := by kernel_rfl
@[go_sem ↓] theorem fa194_14 (b o : Nat) (w : World) : (Instr.fieldAt 194 (.pointer (some ⟨b, o, none⟩)) 14).run Tryd.prog w = .ok (.pointer (some ⟨b, o + 111, none⟩)) w := by kernel_rfl
@[go_sem ↓] theorem fa194_15 (b o : Nat) (w : World) : (Instr.fieldAt 194 (.pointer (some ⟨b, o, none⟩)) 15).run Tryd.prog w = .ok (.pointer (some ⟨b, o + 112, none⟩)) w := by kernel_rfl
@[go_sem ↓] theorem fa194_16 (b o : Nat) (w : World) : (Instr.fieldAt 194 (.pointer (some ⟨b, o, none⟩)) 16).run Tryd.prog w = .ok (.pointer (some ⟨b, o + 113, none⟩)) w := by kernel_rfl
@[go_sem ↓] theorem fa194_17 (b o : Nat) (w : World) : (Instr.fieldAt 194 (.pointer (some ⟨b, o, none⟩)) 17).run Tryd.prog w = .ok (.pointer (some ⟨b, o + 114, none⟩)) w := by kernel_rfl
@[go_sem ↓] theorem fa194_18 (b o : Nat) (w : World) : (Instr.fieldAt 194 (.pointer (some ⟨b, o, none⟩)) 18).run Tryd.prog w = .ok (.pointer (some ⟨b, o + 115, none⟩)) w := by kernel_rfl
@[go_sem ↓] theorem fa194_19 (b o : Nat) (w : World) : (Instr.fieldAt 194 (.pointer (some ⟨b, o, none⟩)) 19).run Tryd.prog w = .ok (.pointer (some ⟨b, o + 116, none⟩)) w := by kernel_rfl
@[go_sem ↓] theorem fa194_20 (b o : Nat) (w : World) : (Instr.fieldAt 194 (.pointer (some ⟨b, o, none⟩)) 20).run Tryd.prog w = .ok (.pointer (some ⟨b, o + 117, none⟩)) w := by kernel_rfl
@[go_sem ↓] theorem fa194_21 (b o : Nat) (w : World) : (Instr.fieldAt 194 (.pointer (some ⟨b, o, none⟩)) 21).run Tryd.prog w = .ok (.pointer (some ⟨b, o + 118, none⟩)) w := by kernel_rfl
@[go_sem ↓] theorem fa194_22 (b o : Nat) (w : World) : (Instr.fieldAt 194 (.pointer (some ⟨b, o, none⟩)) 22).run Tryd.prog w = .ok (.pointer (some ⟨b, o + 151, none⟩)) w := by kernel_rfl
@[go_sem ↓] theorem fa194_23 (b o : Nat) (w : World) : (Instr.fieldAt 194 (.pointer (some ⟨b, o, none⟩)) 23).run Tryd.prog w = .ok (.pointer (some ⟨b, o + 152, none⟩)) w := by kernel_rfl
@[go_sem ↓] theorem fa194_24 (b o : Nat) (w : World) : (Instr.fieldAt 194 (.pointer (some ⟨b, o, none⟩)) 24).run Tryd.prog w = .ok (.pointer (some ⟨b, o + 153, none⟩)) w := by kernel_rfl
@[go_sem ↓] theorem fa194_25 (b o : Nat) (w : World) : (Instr.fieldAt 194 (.pointer (some ⟨b, o, none⟩)) 25).run Tryd.prog w = .ok (.pointer (some ⟨b, o + 154, none⟩)) w := by kernel_rfl
@[go_sem ↓] theorem fa194_26 (b o : Nat) (w : World) : (Instr.fieldAt 194 (.pointer (some ⟨b, o, none⟩)) 26).run Tryd.prog w = .ok (.pointer (some ⟨b, o + 155, none⟩)) w := by kernel_rfl
@[go_sem ↓] theorem fa194_27 (b o : Nat) (w : World) : (Instr.fieldAt 194 (.pointer (some ⟨b, o, none⟩)) 27).run Tryd.prog w = .ok (.pointer (some ⟨b, o + 156, none⟩)) w := by kernel_rfl
@[go_sem ↓] theorem fa194_28 (b o : Nat) (w : World) : (Instr.fieldAt 194 (.pointer (some ⟨b, o, none⟩)) 28).run Tryd.prog w = .ok (.pointer (some ⟨b, o + 157, none⟩)) w := by kernel_rfl
@[go_sem ↓] theorem fa194_29 (b o : Nat) (w : World) : (Instr.fieldAt 194 (.pointer (some ⟨b, o, none⟩)) 29).run Tryd.prog w = .ok (.pointer (some ⟨b, o + 158, none⟩)) w := by kernel_rfl
@[go_sem ↓] theorem fa194_30 (b o : Nat) (w : World) : (Instr.fieldAt 194 (.pointer (some ⟨b, o, none⟩)) 30).run Tryd.prog w = .ok (.pointer (some ⟨b, o + 159, none⟩)) w := by kernel_rfl
@[go_sem ↓] theorem fa194_31 (b o : Nat) (w : World) : (Instr.fieldAt 194 (.pointer (some ⟨b, o, none⟩)) 31).run Tryd.prog w = .ok (.pointer (some ⟨b, o + 160, none⟩)) w := by kernel_rfl
@[go_sem ↓] theorem fa194_32 (b o : Nat) (w : World) : (Instr.fieldAt 194 (.pointer (some ⟨b, o, none⟩)) 32).run Tryd.prog w = .ok (.pointer (some ⟨b, o + 161, none⟩)) w := by kernel_rfl
@[go_sem ↓] theorem fa194_33 (b o : Nat) (w : World) : (Instr.fieldAt 194 (.pointer (some ⟨b, o, none⟩)) 33).run Tryd.prog w = .ok (.pointer (some ⟨b, o + 162, none⟩)) w := by kernel_rfl
@[go_sem ↓] theorem fa194_34 (b o : Nat) (w : World) : (Instr.fieldAt 194 (.pointer (some ⟨b, o, none⟩)) 34).run Tryd.prog w = .ok (.pointer (some ⟨b, o + 163, none⟩)) w := by kernel_rfl
@[go_sem ↓] theorem fa194_35 (b o : Nat) (w : World) : (Instr.fieldAt 194 (.pointer (some ⟨b, o, none⟩)) 35).run Tryd.prog w = .ok (.pointer (some ⟨b, o + 164, none⟩)) w := by kernel_rfl
@[go_sem ↓] theorem fa194_36 (b o : Nat) (w : World) : (Instr.fieldAt 194 (.pointer (some ⟨b, o, none⟩)) 36).run Tryd.prog w = .ok (.pointer (some ⟨b, o + 165, none⟩)) w := by kernel_rfl
@[go_sem ↓] theorem fa194_37 (b o : Nat) (w : World) : (Instr.fieldAt 194 (.pointer (some ⟨b, o, none⟩)) 37).run Tryd.prog w = .ok (.pointer (some ⟨b, o + 166, none⟩)) w := by kernel_rfl
@[go_sem ↓] theorem fa194_38 (b o : Nat) (w : World) : (Instr.fieldAt 194 (.pointer (some ⟨b, o, none⟩)) 38).run Tryd.prog w = .ok (.pointer (some ⟨b, o + 167, none⟩)) w := by kernel_rfl
@[go_sem ↓] theorem fa194_39 (b o : Nat) (w : World) : (Instr.fieldAt 194 (.pointer (some ⟨b, o, none⟩)) 39).run Tryd.prog w = .ok (.pointer (some ⟨b, o + 168, none⟩)) w := by kernel_rfl
@[go_sem ↓] theorem fa194_40 (b o : Nat) (w : World) : (Instr.fieldAt 194 (.pointer (some ⟨b, o, none⟩)) 40).run Tryd.prog w = .ok (.pointer (some ⟨b, o + 169, none⟩)) w := by kernel_rfl
@[go_sem ↓] theorem fa194_41 (b o : Nat) (w : World) : (Instr.fieldAt 194 (.pointer (some ⟨b, o, none⟩)) 41).run Tryd.prog w = .ok (.pointer (some ⟨b, o + 170, none⟩)) w := by kernel_rfl
@[go_sem ↓] theorem fa194_42 (b o : Nat) (w : World) : (Instr.fieldAt 194 (.pointer (some ⟨b, o, none⟩)) 42).run Tryd.prog w = .ok (.pointer (some ⟨b, o + 171, none⟩)) w := by kernel_rfl
@[go_sem ↓] theorem fa194_43 (b o : Nat) (w : World) : (Instr.fieldAt 194 (.pointer (some ⟨b, o, none⟩)) 43).run Tryd.prog w = .ok (.pointer (some ⟨b, o + 172, none⟩)) w := by kernel_rfl
@[go_sem ↓] theorem fa194_44 (b o : Nat) (w : World) : (Instr.fieldAt 194 (.pointer (some ⟨b, o, none⟩)) 44).run Tryd.prog w = .ok (.pointer (some ⟨b, o + 173, none⟩)) w := by kernel_rfl
@[go_sem ↓] theorem fa194_45 (b o : Nat) (w : World) : (Instr.fieldAt 194 (.pointer (some ⟨b, o, none⟩)) 45).run Tryd.prog w = .ok (.pointer (some ⟨b, o + 174, none⟩)) w := by kernel_rfl
@[go_sem ↓] theorem fa194_46 (b o : Nat) (w : World) : (Instr.fieldAt 194 (.pointer (some ⟨b, o, none⟩)) 46).run Tryd.prog w = .ok (.pointer (some ⟨b, o + 175, none⟩)) w := by kernel_rfl
@[go_sem ↓] theorem fa194_47 (b o : Nat) (w : World) : (Instr.fieldAt 194 (.pointer (some ⟨b, o, none⟩)) 47).run Tryd.prog w = .ok (.pointer (some ⟨b, o + 176, none⟩)) w := by kernel_rfl
@[go_sem ↓] theorem fa194_48 (b o : Nat) (w : World) : (Instr.fieldAt 194 (.pointer (some ⟨b, o, none⟩)) 48).run Tryd.prog w = .ok (.pointer (some ⟨b, o + 177, none⟩)) w := by kernel_rfl
@[go_sem ↓] theorem fa194_49 (b o : Nat) (w : World) : (Instr.fieldAt 194 (.pointer (some ⟨b, o, none⟩)) 49).run Tryd.prog w = .ok (.pointer (some ⟨b, o + 178, none⟩)) w := by kernel_rfl
@[go_sem ↓] theorem fa194_50 (b o : Nat) (w : World) : (Instr.fieldAt 194 (.pointer (some ⟨b, o, none⟩)) 50).run Tryd.prog w = .ok (.pointer (some ⟨b, o + 179, none⟩)) w := by kernel_rfl
@[go_sem ↓] theorem fa194_51 (b o : Nat) (w : World) : (Instr.fieldAt 194 (.pointer (some ⟨b, o, none⟩)) 51).run Tryd.prog w = .ok (.pointer (some ⟨b, o + 180, none⟩)) w := by kernel_rfl
@[go_sem ↓] theorem fa194_52 (b o : Nat) (w : World) : (Instr.fieldAt 194 (.pointer (some ⟨b, o, none⟩)) 52).run Tryd.prog w = .ok (.pointer (some ⟨b, o + 181, none⟩)) w := by kernel_rfl
@[go_sem ↓] theorem fa194_53 (b o : Nat) (w : World) : (Instr.fieldAt 194 (.pointer (some ⟨b, o, none⟩)) 53).run Tryd.prog w = .ok (.pointer (some ⟨b, o + 182, none⟩)) w := by kernel_rfl
@[go_sem ↓] theorem fa194_54 (b o : Nat) (w : World) : (Instr.fieldAt 194 (.pointer (some ⟨b, o, none⟩)) 54).run Tryd.prog w = .ok (.pointer (some ⟨b, o + 183, none⟩)) w := by kernel_rfl
@[go_sem ↓] theorem fa194_55 (b o : Nat) (w : World) : (Instr.fieldAt 194 (.pointer (some ⟨b, o, none⟩)) 55).run Tryd.prog w = .ok (.pointer (some ⟨b, o + 184, none⟩)) w := by kernel_rfl
@[go_sem ↓] theorem fa194_56 (b o : Nat) (w : World) : (Instr.fieldAt 194 (.pointer (some ⟨b, o, none⟩)) 56).run Tryd.prog w = .ok (.pointer (some ⟨b, o + 185, none⟩)) w := by kernel_rfl
@[go_sem ↓] theorem fa194_57 (b o : Nat) (w : World) : (Instr.fieldAt 194 (.pointer (some ⟨b, o, none⟩)) 57).run Tryd.prog w = .ok (.pointer (some ⟨b, o + 186, none⟩)) w := by kernel_rfl
@[go_sem ↓] theorem fa194_58 (b o : Nat) (w : World) : (Instr.fieldAt 194 (.pointer (some ⟨b, o, none⟩)) 58).run Tryd.prog w = .ok (.pointer (some ⟨b, o + 187, none⟩)) w := by kernel_rfl
@[go_sem ↓] theorem fa194_59 (b o : Nat) (w : World) : (Instr.fieldAt 194 (.pointer (some ⟨b, o, none⟩)) 59).run Tryd.prog w = .ok (.pointer (some ⟨b, o + 188, none⟩)) w := by kernel_rfl
@[go_sem ↓] theorem fa194_60 (b o : Nat) (w : World) : (Instr.fieldAt 194 (.pointer (some ⟨b, o, none⟩)) 60).run Tryd.prog w = .ok (.pointer (some ⟨b, o + 190, none⟩)) w := by kernel_rfl
@[go_sem ↓] theorem fa194_61 (b o : Nat) (w : World) : (Instr.fieldAt 194 (.pointer (some ⟨b, o, none⟩)) 61).run Tryd.prog w = .ok (.pointer (some ⟨b, o + 191, none⟩)) w := by kernel_rfl
@[go_sem ↓] theorem fa194_62 (b o : Nat) (w : World) : (Instr.fieldAt 194 (.pointer (some ⟨b, o, none⟩)) 62).run Tryd.prog w = .ok (.pointer (some ⟨b, o + 192, none⟩)) w := by kernel_rfl
@[go_sem ↓] theorem fa194_63 (b o : Nat) (w : World) : (Instr.fieldAt 194 (.pointer (some ⟨b, o, none⟩)) 63).run Tryd.prog w = .ok (.pointer (some ⟨b, o + 196, none⟩)) w := by kernel_rfl
@[go_sem ↓] theorem fa194_64 (b o : Nat) (w : World) : (Instr.fieldAt 194 (.pointer (some ⟨b, o, none⟩)) 64).run Tryd.prog w = .ok (.pointer (some ⟨b, o + 197, none⟩)) w := by kernel_rfl
@[go_sem ↓] theorem fa194_65 (b o : Nat) (w : World) : (Instr.fieldAt 194 (.pointer (some ⟨b, o, none⟩)) 65).run Tryd.prog w = .ok (.pointer (some ⟨b, o + 198, none⟩)) w := by kernel_rfl
@[go_sem ↓] theorem fa194_66 (b o : Nat) (w : World) : (Instr.fieldAt 194 (.pointer (some ⟨b, o, none⟩)) 66).run Tryd.prog w = .ok (.pointer (some ⟨b, o + 199, none⟩)) w := by kernel_rfl
@[go_sem ↓] theorem fa194_67 (b o : Nat) (w : World) : (Instr.fieldAt 194 (.pointer (some ⟨b, o, none⟩)) 67).run Tryd.prog w = .ok (.pointer (some ⟨b, o + 200, none⟩)) w := by kernel_rfl
@[go_sem ↓] theorem fa194_68 (b o : Nat) (w : World) : (Instr.fieldAt 194 (.pointer (some ⟨b, o, none⟩)) 68).run Tryd.prog w = .ok (.pointer (some ⟨b, o + 201, none⟩)) w := by kernel_rfl
@[go_sem ↓] theorem fa194_69 (b o : Nat) (w : World) : (Instr.fieldAt 194 (.pointer (some ⟨b, o, none⟩)) 69).run Tryd.prog w = .ok (.pointer (some ⟨b, o + 286, none⟩)) w := by kernel_rfl
@[go_sem ↓] theorem fa194_70 (b o : Nat) (w : World) : (Instr.fieldAt 194 (.pointer (some ⟨b, o, none⟩)) 70).run Tryd.prog w = .ok (.pointer (some ⟨b, o + 287, none⟩)) w := by kernel_rfl
@[go_sem ↓] theorem fa194_71 (b o : Nat) (w : World) : (Instr.fieldAt 194 (.pointer (some ⟨b, o, none⟩)) 71).run Tryd.prog w = .ok (.pointer (some ⟨b, o + 288, none⟩)) w := by kernel_rfl
@[go_sem ↓] theorem fa194_72 (b o : Nat) (w : World) : (Instr.fieldAt 194 (.pointer (some ⟨b, o, none⟩)) 72).run Tryd.prog w = .ok (.pointer (some ⟨b, o + 289, none⟩)) w := by kernel_rfl
@[go_sem ↓] theorem fa194_73 (b o : Nat) (w : World) : (Instr.fieldAt 194 (.pointer (some ⟨b, o, none⟩)) 73).run Tryd.prog w = .ok (.pointer (some ⟨b, o + 290, none⟩)) w := by kernel_rfl
@[go_sem ↓] theorem fa194_74 (b o : Nat) (w : World) : (Instr.fieldAt 194 (.pointer (some ⟨b, o, none⟩)) 74).run Tryd.prog w = .ok (.pointer (some ⟨b, o + 291, none⟩)) w := by kernel_rfl
@[go_sem ↓] theorem fa194_75 (b o : Nat) (w : World) : (Instr.fieldAt 194 (.pointer (some ⟨b, o, none⟩)) 75).run Tryd.prog w = .ok (.pointer (some ⟨b, o + 292, none⟩)) w := by kernel_rfl
@[go_sem ↓] theorem fa194_76 (b o : Nat) (w : World) : (Instr.fieldAt 194 (.pointer (some ⟨b, o, none⟩)) 76).run Tryd.prog w = .ok (.pointer (some ⟨b, o + 294, none⟩)) w := by kernel_rfl
@[go_sem ↓] theorem fa194_77 (b o : Nat) (w : World) : (Instr.fieldAt 194 (.pointer (some ⟨b, o, none⟩)) 77).run Tryd.prog w = .ok (.pointer (some ⟨b, o + 296, none⟩)) w := by kernel_rfl
@[go_sem ↓] theorem fa194_78 (b o : Nat) (w : World) : (Instr.fieldAt 194 (.pointer (some ⟨b, o, none⟩)) 78).run Tryd.prog w = .ok (.pointer (some ⟨b, o + 298, none⟩)) w := by kernel_rfl
@[go_sem ↓] theorem fa194_79 (b o : Nat) (w : World) : (Instr.fieldAt 194 (.pointer (some ⟨b, o, none⟩)) 79).run Tryd.prog w = .ok (.pointer (some ⟨b, o + 300, none⟩)) w := by kernel_rfl
@[go_sem ↓] theorem fa194_80 (b o : Nat) (w : World) : (Instr.fieldAt 194 (.pointer (some ⟨b, o, none⟩)) 80).run Tryd.prog w = .ok (.pointer (some ⟨b, o + 302, none⟩)) w := by kernel_rfl
@[go_sem ↓] theorem fa194_81 (b o : Nat) (w : World) : (Instr.fieldAt 194 (.pointer (some ⟨b, o, none⟩)) 81).run Tryd.prog w = .ok (.pointer (some ⟨b, o + 304, none⟩)) w := by kernel_rfl
@[go_sem ↓] theorem fa194_82 (b o : Nat) (w : World) : (Instr.fieldAt 194 (.pointer (some ⟨b, o, none⟩)) 82).run Tryd.prog w = .ok (.pointer (some ⟨b, o + 306, none⟩)) w := by kernel_rfl
@[go_sem ↓] theorem fa194_83 (b o : Nat) (w : World) : (Instr.fieldAt 194 (.pointer (some ⟨b, o, none⟩)) 83).run Tryd.prog w = .ok (.pointer (some ⟨b, o + 308, none⟩)) w := by kernel_rfl
@[go_sem ↓] theorem fa194_84 (b o : Nat) (w : World) : (Instr.fieldAt 194 (.pointer (some ⟨b, o, none⟩)) 84).run Tryd.prog w = .ok (.pointer (some ⟨b, o + 309, none⟩)) w := by kernel_rfl
@[go_sem ↓] theorem fa194_85 (b o : Nat) (w : World) : (Instr.fieldAt 194 (.pointer (some ⟨b, o, none⟩)) 85).run Tryd.prog w = .ok (.pointer (some ⟨b, o + 310, none⟩)) w := by kernel_rfl
@[go_sem ↓] theorem fa194_86 (b o : Nat) (w : World) : (Instr.fieldAt 194 (.pointer (some ⟨b, o, none⟩)) 86).run Tryd.prog w = .ok (.pointer (some ⟨b, o + 312, none⟩)) w := by kernel_rfl
@[go_sem ↓] theorem fa194_87 (b o : Nat) (w : World) : (Instr.fieldAt 194 (.pointer (some ⟨b, o, none⟩)) 87).run Tryd.prog w = .ok (.pointer (some ⟨b, o + 314, none⟩)) w := by kernel_rfl
@[go_sem ↓] theorem fa194_88 (b o : Nat) (w : World) : (Instr.fieldAt 194 (.pointer (some ⟨b, o, none⟩)) 88).run Tryd.prog w = .ok (.pointer (some ⟨b, o + 316, none⟩)) w := by kernel_rfl
@[go_sem ↓] theorem fa194_89 (b o : Nat) (w : World) : (Instr.fieldAt 194 (.pointer (some ⟨b, o, none⟩)) 89).run Tryd.prog w = .ok (.pointer (some ⟨b, o + 318, none⟩)) w := by kernel_rfl
@[go_sem ↓] theorem fa194_90 (b o : Nat) (w : World) : (Instr.fieldAt 194 (.pointer (some ⟨b, o, none⟩)) 90).run Tryd.prog w = .ok (.pointer (some ⟨b, o + 320, none⟩)) w := by kernel_rfl
@[go_sem ↓] theorem fa194_91 (b o : Nat) (w : World) : (Instr.fieldAt 194 (.pointer (some ⟨b, o, none⟩)) 91).run Tryd.prog w = .ok (.pointer (some ⟨b, o + 322, none⟩)) w := by kernel_rfl
@[go_sem ↓] theorem fa194_92 (b o : Nat) (w : World) : (Instr.fieldAt 194 (.pointer (some ⟨b, o, none⟩)) 92).run Tryd.prog w = .ok (.pointer (some ⟨b, o + 324, none⟩)) w := by kernel_rfl
@[go_sem ↓] theorem fa194_93 (b o : Nat) (w : World) : (Instr.fieldAt 194 (.pointer (some ⟨b, o, none⟩)) 93).run Tryd.prog w = .ok (.pointer (some ⟨b, o + 326, none⟩)) w := by kernel_rfl
@[go_sem ↓] theorem fa194_94 (b o : Nat) (w : World) : (Instr.fieldAt 194 (.pointer (some ⟨b, o, none⟩)) 94).run Tryd.prog w = .ok (.pointer (some ⟨b, o + 327, none⟩)) w := by kernel_rfl
@[go_sem ↓] theorem fa194_95 (b o : Nat) (w : World) : (Instr.fieldAt 194 (.pointer (some ⟨b, o, none⟩)) 95).run Tryd.prog w = .ok (.pointer (some ⟨b, o + 328, none⟩)) w := by kernel_rfl
@[go_sem ↓] theorem fa194_96 (b o : Nat) (w : World) : (Instr.fieldAt 194 (.pointer (some ⟨b, o, none⟩)) 96).run Tryd.prog w = .ok (.pointer (some ⟨b, o + 329, none⟩)) w := by kernel_rfl
@[go_sem ↓] theorem fa194_97 (b o : Nat) (w : World) : (Instr.fieldAt 194 (.pointer (some ⟨b, o, none⟩)) 97).run Tryd.prog w = .ok (.pointer (some ⟨b, o + 339, none⟩)) w := by kernel_rfl
@[go_sem ↓] theorem fa194_98 (b o : Nat) (w : World) : (Instr.fieldAt 194 (.pointer (some ⟨b, o, none⟩)) 98).run Tryd.prog w = .ok (.pointer (some ⟨b, o + 340, none⟩)) w := by kernel_rfl
@[go_sem ↓] theorem fa194_99 (b o : Nat) (w : World) : (Instr.fieldAt 194 (.pointer (some ⟨b, o, none⟩)) 99).run Tryd.prog w = .ok (.pointer (some ⟨b, o + 341, none⟩)) w := by kernel_rfl
@[go_sem ↓] theorem fa194_100 (b o : Nat) (w : World) : (Instr.fieldAt 194 (.pointer (some ⟨b, o, none⟩)) 100).run Tryd.prog w = .ok (.pointer (some ⟨b, o + 342, none⟩)) w := by kernel_rfl
@[go_sem ↓] theorem fa194_101 (b o : Nat) (w : World) : (Instr.fieldAt 194 (.pointer (some ⟨b, o, none⟩)) 101).run Tryd.prog w = .ok (.pointer (some ⟨b, o + 343, none⟩)) w := by kernel_rfl
@[go_sem ↓] theorem fa194_102 (b o : Nat) (w : World) : (Instr.fieldAt 194 (.pointer (some ⟨b, o, none⟩)) 102).run Tryd.prog w = .ok (.pointer (some ⟨b, o + 344, none⟩)) w := by kernel_rfl
@[go_sem ↓] theorem fa194_103 (b o : Nat) (w : World) : (Instr.fieldAt 194 (.pointer (some ⟨b, o, none⟩)) 103).run Tryd.prog w = .ok (.pointer (some ⟨b, o + 345, none⟩)) w := by kernel_rfl
@[go_sem ↓] theorem fa194_104 (b o : Nat) (w : World) : (Instr.fieldAt 194 (.pointer (some ⟨b, o, none⟩)) 104).run Tryd.prog w = .ok (.pointer (some ⟨b, o + 346, none⟩)) w := by kernel_rfl
@[go_sem ↓] theorem fa194_105 (b o : Nat) (w : World) : (Instr.fieldAt 194 (.pointer (some ⟨b, o, none⟩)) 105).run Tryd.prog w = .ok (.pointer (some ⟨b, o + 347, none⟩)) w := by kernel_rfl
@[go_sem ↓] theorem fa194_106 (b o : Nat) (w : World) : (Instr.fieldAt 194 (.pointer (some ⟨b, o, none⟩)) 106).run Tryd.prog w = .ok (.pointer (some ⟨b, o + 348, none⟩)) w := by kernel_rfl
@[go_sem ↓] theorem fa194_107 (b o : Nat) (w : World) : (Instr.fieldAt 194 (.pointer (some ⟨b, o, none⟩)) 107).run Tryd.prog w = .ok (.pointer (some ⟨b, o + 349, none⟩)) w := by kernel_rfl
@[go_sem ↓] theorem fa194_108 (b o : Nat) (w : World) : (Instr.fieldAt 194 (.pointer (some ⟨b, o, none⟩)) 108).run Tryd.prog w = .ok (.pointer (some ⟨b, o + 350, none⟩)) w := by kernel_rfl
@[go_sem ↓] theorem fa194_109 (b o : Nat) (w : World) : (Instr.fieldAt 194 (.pointer (some ⟨b, o, none⟩)) 109).run Tryd.prog w = .ok (.pointer (some ⟨b, o + 351, none⟩)) w := by kernel_rfl
@[go_sem ↓] theorem fa194_110 (b o : Nat) (w : World) : (Instr.fieldAt 194 (.pointer (some ⟨b, o, none⟩)) 110).run Tryd.prog w = .ok (.pointer (some ⟨b, o + 352, none⟩)) w := by kernel_rfl

end Go.Proofs.YtkncfhhiookgdaaDoor
