/-
  The struct types of many fields: the zero value's cells behind a name, where each field lies, what each zero cell holds.
-/
import Derived.Test.YtmbbabikbmkjpabKit
namespace Go.Proofs.Ytmbbabikbmkjpab
set_option maxRecDepth 100000

noncomputable def PZ227 : Array Value := match (Try.prog.info? 227).bind (·.zero) with | some (.agg c) => c | _ => #[]
@[go_sem ↓] theorem zv227 (w : World) : (zeroValue 227).run Try.prog w = .ok (.agg PZ227) w := by kernel_rfl
@[simp, go_sem] theorem PZ227_size : PZ227.size = 353 := by kernel_rfl
@[simp, go_sem] theorem PZ227_0 : PZ227[0]? = some (.slice none 0 0) := by kernel_rfl
@[simp, go_sem] theorem PZ227_1 : PZ227[1]? = some (.nilIface) := by kernel_rfl
@[simp, go_sem] theorem PZ227_2 : PZ227[2]? = some (.slice none 0 0) := by kernel_rfl
@[simp, go_sem] theorem PZ227_3 : PZ227[3]? = some (.int .u32 0) := by kernel_rfl
@[simp, go_sem] theorem PZ227_4 : PZ227[4]? = some (.nilIface) := by kernel_rfl
@[simp, go_sem] theorem PZ227_5 : PZ227[5]? = some (.slice none 0 0) := by kernel_rfl
@[simp, go_sem] theorem PZ227_6 : PZ227[6]? = some (.int .u32 0) := by kernel_rfl
@[simp, go_sem] theorem PZ227_7 : PZ227[7]? = some (.bool false) := by kernel_rfl
@[simp, go_sem] theorem PZ227_8 : PZ227[8]? = some (.bool false) := by kernel_rfl
@[simp, go_sem] theorem PZ227_9 : PZ227[9]? = some (.bool false) := by kernel_rfl
@[simp, go_sem] theorem PZ227_10 : PZ227[10]? = some (.string ⟨#[]⟩) := by kernel_rfl
@[simp, go_sem] theorem PZ227_11 : PZ227[11]? = some (.bool false) := by kernel_rfl
@[simp, go_sem] theorem PZ227_12 : PZ227[12]? = some (.bool false) := by kernel_rfl
@[simp, go_sem] theorem PZ227_13 : PZ227[13]? = some (.pointer none) := by kernel_rfl
@[simp, go_sem] theorem PZ227_14 : PZ227[14]? = some (.pointer none) := by kernel_rfl
@[simp, go_sem] theorem PZ227_15 : PZ227[15]? = some (.pointer none) := by kernel_rfl
@[simp, go_sem] theorem PZ227_16 : PZ227[16]? = some (.slice none 0 0) := by kernel_rfl
@[simp, go_sem] theorem PZ227_17 : PZ227[17]? = some (.pointer none) := by kernel_rfl
@[simp, go_sem] theorem PZ227_18 : PZ227[18]? = some (.string ⟨#[]⟩) := by kernel_rfl
@[simp, go_sem] theorem PZ227_19 : PZ227[19]? = some (.pointer none) := by kernel_rfl
@[simp, go_sem] theorem PZ227_20 : PZ227[20]? = some (.int .i32 0) := by kernel_rfl
@[simp, go_sem] theorem PZ227_21 : PZ227[21]? = some (.int .i32 0) := by kernel_rfl
@[simp, go_sem] theorem PZ227_22 : PZ227[22]? = some (.int .u8 0) := by kernel_rfl
@[simp, go_sem] theorem PZ227_23 : PZ227[23]? = some (.int .u64 0) := by kernel_rfl
@[simp, go_sem] theorem PZ227_24 : PZ227[24]? = some (.int .u64 0) := by kernel_rfl
@[simp, go_sem] theorem PZ227_25 : PZ227[25]? = some (.int .u64 0) := by kernel_rfl
@[simp, go_sem] theorem PZ227_26 : PZ227[26]? = some (.int .u8 0) := by kernel_rfl
@[simp, go_sem] theorem PZ227_27 : PZ227[27]? = some (.int .u8 0) := by kernel_rfl
@[simp, go_sem] theorem PZ227_28 : PZ227[28]? = some (.int .u8 0) := by kernel_rfl
@[simp, go_sem] theorem PZ227_29 : PZ227[29]? = some (.int .u8 0) := by kernel_rfl
@[simp, go_sem] theorem PZ227_30 : PZ227[30]? = some (.int .u8 0) := by kernel_rfl
@[simp, go_sem] theorem PZ227_31 : PZ227[31]? = some (.int .u8 0) := by kernel_rfl
@[simp, go_sem] theorem PZ227_32 : PZ227[32]? = some (.bool false) := by kernel_rfl
@[simp, go_sem] theorem PZ227_33 : PZ227[33]? = some (.bool false) := by kernel_rfl
@[simp, go_sem] theorem PZ227_34 : PZ227[34]? = some (.int .u8 0) := by kernel_rfl
@[simp, go_sem] theorem PZ227_35 : PZ227[35]? = some (.int .u8 0) := by kernel_rfl
@[simp, go_sem] theorem PZ227_36 : PZ227[36]? = some (.int .u8 0) := by kernel_rfl
@[simp, go_sem] theorem PZ227_37 : PZ227[37]? = some (.int .u8 0) := by kernel_rfl
@[simp, go_sem] theorem PZ227_38 : PZ227[38]? = some (.int .u8 0) := by kernel_rfl
@[simp, go_sem] theorem PZ227_39 : PZ227[39]? = some (.bool false) := by kernel_rfl
@[simp, go_sem] theorem PZ227_40 : PZ227[40]? = some (.bool false) := by kernel_rfl
@[simp, go_sem] theorem PZ227_41 : PZ227[41]? = some (.bool false) := by kernel_rfl
@[simp, go_sem] theorem PZ227_42 : PZ227[42]? = some (.bool false) := by kernel_rfl
@[simp, go_sem] theorem PZ227_43 : PZ227[43]? = some (.bool false) := by kernel_rfl
@[simp, go_sem] theorem PZ227_44 : PZ227[44]? = some (.bool false) := by kernel_rfl
@[simp, go_sem] theorem PZ227_45 : PZ227[45]? = some (.bool false) := by kernel_rfl
@[simp, go_sem] theorem PZ227_46 : PZ227[46]? = some (.bool false) := by kernel_rfl
@[simp, go_sem] theorem PZ227_47 : PZ227[47]? = some (.bool false) := by kernel_rfl
@[simp, go_sem] theorem PZ227_48 : PZ227[48]? = some (.bool false) := by kernel_rfl
@[simp, go_sem] theorem PZ227_49 : PZ227[49]? = some (.bool false) := by kernel_rfl
@[simp, go_sem] theorem PZ227_50 : PZ227[50]? = some (.bool false) := by kernel_rfl
@[simp, go_sem] theorem PZ227_51 : PZ227[51]? = some (.nilFunc) := by kernel_rfl
@[simp, go_sem] theorem PZ227_52 : PZ227[52]? = some (.nilFunc) := by kernel_rfl
@[simp, go_sem] theorem PZ227_53 : PZ227[53]? = some (.nilFunc) := by kernel_rfl
@[simp, go_sem] theorem PZ227_54 : PZ227[54]? = some (.nilFunc) := by kernel_rfl
@[simp, go_sem] theorem PZ227_55 : PZ227[55]? = some (.int .i8 0) := by kernel_rfl
@[simp, go_sem] theorem PZ227_56 : PZ227[56]? = some (.map none) := by kernel_rfl
@[simp, go_sem] theorem PZ227_57 : PZ227[57]? = some (.string ⟨#[]⟩) := by kernel_rfl
@[simp, go_sem] theorem PZ227_58 : PZ227[58]? = some (.string ⟨#[]⟩) := by kernel_rfl
@[simp, go_sem] theorem PZ227_59 : PZ227[59]? = some (.string ⟨#[]⟩) := by kernel_rfl
@[simp, go_sem] theorem PZ227_60 : PZ227[60]? = some (.string ⟨#[]⟩) := by kernel_rfl
@[simp, go_sem] theorem PZ227_61 : PZ227[61]? = some (.string ⟨#[]⟩) := by kernel_rfl
@[simp, go_sem] theorem PZ227_62 : PZ227[62]? = some (.string ⟨#[]⟩) := by kernel_rfl
@[simp, go_sem] theorem PZ227_63 : PZ227[63]? = some (.string ⟨#[]⟩) := by kernel_rfl
@[simp, go_sem] theorem PZ227_64 : PZ227[64]? = some (.string ⟨#[]⟩) := by kernel_rfl
@[simp, go_sem] theorem PZ227_65 : PZ227[65]? = some (.int .u8 0) := by kernel_rfl
@[simp, go_sem] theorem PZ227_66 : PZ227[66]? = some (.int .u32 0) := by kernel_rfl
@[simp, go_sem] theorem PZ227_67 : PZ227[67]? = some (.string ⟨#[]⟩) := by kernel_rfl
@[simp, go_sem] theorem PZ227_68 : PZ227[68]? = some (.string ⟨#[]⟩) := by kernel_rfl
@[simp, go_sem] theorem PZ227_69 : PZ227[69]? = some (.string ⟨#[]⟩) := by kernel_rfl
@[simp, go_sem] theorem PZ227_70 : PZ227[70]? = some (.int .i32 0) := by kernel_rfl
@[simp, go_sem] theorem PZ227_71 : PZ227[71]? = some (.int .i32 0) := by kernel_rfl
@[simp, go_sem] theorem PZ227_72 : PZ227[72]? = some (.int .i32 0) := by kernel_rfl
@[simp, go_sem] theorem PZ227_73 : PZ227[73]? = some (.int .i32 0) := by kernel_rfl
@[simp, go_sem] theorem PZ227_74 : PZ227[74]? = some (.bool false) := by kernel_rfl
@[simp, go_sem] theorem PZ227_75 : PZ227[75]? = some (.bool false) := by kernel_rfl
@[simp, go_sem] theorem PZ227_76 : PZ227[76]? = some (.bool false) := by kernel_rfl
@[simp, go_sem] theorem PZ227_77 : PZ227[77]? = some (.pointer none) := by kernel_rfl
@[simp, go_sem] theorem PZ227_78 : PZ227[78]? = some (.pointer none) := by kernel_rfl
@[simp, go_sem] theorem PZ227_79 : PZ227[79]? = some (.int .i32 0) := by kernel_rfl
@[simp, go_sem] theorem PZ227_80 : PZ227[80]? = some (.int .i32 0) := by kernel_rfl
@[simp, go_sem] theorem PZ227_81 : PZ227[81]? = some (.int .i32 0) := by kernel_rfl
@[simp, go_sem] theorem PZ227_82 : PZ227[82]? = some (.int .u8 0) := by kernel_rfl
@[simp, go_sem] theorem PZ227_83 : PZ227[83]? = some (.int .u8 0) := by kernel_rfl
@[simp, go_sem] theorem PZ227_84 : PZ227[84]? = some (.bool false) := by kernel_rfl
@[simp, go_sem] theorem PZ227_85 : PZ227[85]? = some (.bool false) := by kernel_rfl
@[simp, go_sem] theorem PZ227_86 : PZ227[86]? = some (.bool false) := by kernel_rfl
@[simp, go_sem] theorem PZ227_87 : PZ227[87]? = some (.bool false) := by kernel_rfl
@[simp, go_sem] theorem PZ227_88 : PZ227[88]? = some (.bool false) := by kernel_rfl
@[simp, go_sem] theorem PZ227_89 : PZ227[89]? = some (.bool false) := by kernel_rfl
@[simp, go_sem] theorem PZ227_90 : PZ227[90]? = some (.bool false) := by kernel_rfl
@[simp, go_sem] theorem PZ227_91 : PZ227[91]? = some (.bool false) := by kernel_rfl
@[simp, go_sem] theorem PZ227_92 : PZ227[92]? = some (.pointer none) := by kernel_rfl
@[simp, go_sem] theorem PZ227_93 : PZ227[93]? = some (.pointer none) := by kernel_rfl
@[simp, go_sem] theorem PZ227_94 : PZ227[94]? = some (.pointer none) := by kernel_rfl
@[simp, go_sem] theorem PZ227_95 : PZ227[95]? = some (.bool false) := by kernel_rfl
@[simp, go_sem] theorem PZ227_96 : PZ227[96]? = some (.bool false) := by kernel_rfl
@[simp, go_sem] theorem PZ227_97 : PZ227[97]? = some (.pointer none) := by kernel_rfl
@[simp, go_sem] theorem PZ227_98 : PZ227[98]? = some (.bool false) := by kernel_rfl
@[simp, go_sem] theorem PZ227_99 : PZ227[99]? = some (.bool false) := by kernel_rfl
@[simp, go_sem] theorem PZ227_100 : PZ227[100]? = some (.bool false) := by kernel_rfl
@[simp, go_sem] theorem PZ227_101 : PZ227[101]? = some (.bool false) := by kernel_rfl
@[simp, go_sem] theorem PZ227_102 : PZ227[102]? = some (.bool false) := by kernel_rfl
@[simp, go_sem] theorem PZ227_103 : PZ227[103]? = some (.slice none 0 0) := by kernel_rfl
@[simp, go_sem] theorem PZ227_104 : PZ227[104]? = some (.pointer none) := by kernel_rfl
@[simp, go_sem] theorem PZ227_105 : PZ227[105]? = some (.pointer none) := by kernel_rfl
@[simp, go_sem] theorem PZ227_106 : PZ227[106]? = some (.slice none 0 0) := by kernel_rfl
@[simp, go_sem] theorem PZ227_107 : PZ227[107]? = some (.nilFunc) := by kernel_rfl
@[simp, go_sem] theorem PZ227_108 : PZ227[108]? = some (.slice none 0 0) := by kernel_rfl
@[simp, go_sem] theorem PZ227_109 : PZ227[109]? = some (.slice none 0 0) := by kernel_rfl
@[simp, go_sem] theorem PZ227_110 : PZ227[110]? = some (.map none) := by kernel_rfl
@[simp, go_sem] theorem PZ227_111 : PZ227[111]? = some (.map none) := by kernel_rfl
@[simp, go_sem] theorem PZ227_112 : PZ227[112]? = some (.map none) := by kernel_rfl
@[simp, go_sem] theorem PZ227_113 : PZ227[113]? = some (.map none) := by kernel_rfl
@[simp, go_sem] theorem PZ227_114 : PZ227[114]? = some (.map none) := by kernel_rfl
@[simp, go_sem] theorem PZ227_115 : PZ227[115]? = some (.map none) := by kernel_rfl
@[simp, go_sem] theorem PZ227_116 : PZ227[116]? = some (.slice none 0 0) := by kernel_rfl
@[simp, go_sem] theorem PZ227_117 : PZ227[117]? = some (.map none) := by kernel_rfl
@[simp, go_sem] theorem PZ227_118 : PZ227[118]? = some (.slice none 0 0) := by kernel_rfl
@[simp, go_sem] theorem PZ227_119 : PZ227[119]? = some (.int .u8 0) := by kernel_rfl
@[simp, go_sem] theorem PZ227_120 : PZ227[120]? = some (.int .u8 0) := by kernel_rfl
@[simp, go_sem] theorem PZ227_121 : PZ227[121]? = some (.int .u8 0) := by kernel_rfl
@[simp, go_sem] theorem PZ227_122 : PZ227[122]? = some (.int .u8 0) := by kernel_rfl
@[simp, go_sem] theorem PZ227_123 : PZ227[123]? = some (.int .u8 0) := by kernel_rfl
@[simp, go_sem] theorem PZ227_124 : PZ227[124]? = some (.int .u8 0) := by kernel_rfl
@[simp, go_sem] theorem PZ227_125 : PZ227[125]? = some (.int .u8 0) := by kernel_rfl
@[simp, go_sem] theorem PZ227_126 : PZ227[126]? = some (.int .u8 0) := by kernel_rfl
@[simp, go_sem] theorem PZ227_127 : PZ227[127]? = some (.int .u8 0) := by kernel_rfl
@[simp, go_sem] theorem PZ227_128 : PZ227[128]? = some (.int .u8 0) := by kernel_rfl
@[simp, go_sem] theorem PZ227_129 : PZ227[129]? = some (.int .u8 0) := by kernel_rfl
@[simp, go_sem] theorem PZ227_130 : PZ227[130]? = some (.int .u8 0) := by kernel_rfl
@[simp, go_sem] theorem PZ227_131 : PZ227[131]? = some (.int .u8 0) := by kernel_rfl
@[simp, go_sem] theorem PZ227_132 : PZ227[132]? = some (.int .u8 0) := by kernel_rfl
@[simp, go_sem] theorem PZ227_133 : PZ227[133]? = some (.int .u8 0) := by kernel_rfl
@[simp, go_sem] theorem PZ227_134 : PZ227[134]? = some (.int .u8 0) := by kernel_rfl
@[simp, go_sem] theorem PZ227_135 : PZ227[135]? = some (.int .u8 0) := by kernel_rfl
@[simp, go_sem] theorem PZ227_136 : PZ227[136]? = some (.int .u8 0) := by kernel_rfl
@[simp, go_sem] theorem PZ227_137 : PZ227[137]? = some (.int .u8 0) := by kernel_rfl
@[simp, go_sem] theorem PZ227_138 : PZ227[138]? = some (.int .u8 0) := by kernel_rfl
@[simp, go_sem] theorem PZ227_139 : PZ227[139]? = some (.int .u8 0) := by kernel_rfl
@[simp, go_sem] theorem PZ227_140 : PZ227[140]? = some (.int .u8 0) := by kernel_rfl
@[simp, go_sem] theorem PZ227_141 : PZ227[141]? = some (.int .u8 0) := by kernel_rfl
@[simp, go_sem] theorem PZ227_142 : PZ227[142]? = some (.int .u8 0) := by kernel_rfl
@[simp, go_sem] theorem PZ227_143 : PZ227[143]? = some (.int .u8 0) := by kernel_rfl
@[simp, go_sem] theorem PZ227_144 : PZ227[144]? = some (.int .u8 0) := by kernel_rfl
@[simp, go_sem] theorem PZ227_145 : PZ227[145]? = some (.int .u8 0) := by kernel_rfl
@[simp, go_sem] theorem PZ227_146 : PZ227[146]? = some (.int .u8 0) := by kernel_rfl
@[simp, go_sem] theorem PZ227_147 : PZ227[147]? = some (.int .u8 0) := by kernel_rfl
@[simp, go_sem] theorem PZ227_148 : PZ227[148]? = some (.int .u8 0) := by kernel_rfl
@[simp, go_sem] theorem PZ227_149 : PZ227[149]? = some (.int .u8 0) := by kernel_rfl
@[simp, go_sem] theorem PZ227_150 : PZ227[150]? = some (.int .u8 0) := by kernel_rfl
@[simp, go_sem] theorem PZ227_151 : PZ227[151]? = some (.map none) := by kernel_rfl
@[simp, go_sem] theorem PZ227_152 : PZ227[152]? = some (.map none) := by kernel_rfl
@[simp, go_sem] theorem PZ227_153 : PZ227[153]? = some (.map none) := by kernel_rfl
@[simp, go_sem] theorem PZ227_154 : PZ227[154]? = some (.slice none 0 0) := by kernel_rfl
@[simp, go_sem] theorem PZ227_155 : PZ227[155]? = some (.map none) := by kernel_rfl
@[simp, go_sem] theorem PZ227_156 : PZ227[156]? = some (.map none) := by kernel_rfl
@[simp, go_sem] theorem PZ227_157 : PZ227[157]? = some (.map none) := by kernel_rfl
@[simp, go_sem] theorem PZ227_158 : PZ227[158]? = some (.map none) := by kernel_rfl
@[simp, go_sem] theorem PZ227_159 : PZ227[159]? = some (.nilIface) := by kernel_rfl
@[simp, go_sem] theorem PZ227_160 : PZ227[160]? = some (.nilIface) := by kernel_rfl
@[simp, go_sem] theorem PZ227_161 : PZ227[161]? = some (.map none) := by kernel_rfl
@[simp, go_sem] theorem PZ227_162 : PZ227[162]? = some (.map none) := by kernel_rfl
@[simp, go_sem] theorem PZ227_163 : PZ227[163]? = some (.map none) := by kernel_rfl
@[simp, go_sem] theorem PZ227_164 : PZ227[164]? = some (.map none) := by kernel_rfl
@[simp, go_sem] theorem PZ227_165 : PZ227[165]? = some (.map none) := by kernel_rfl
@[simp, go_sem] theorem PZ227_166 : PZ227[166]? = some (.nilIface) := by kernel_rfl
@[simp, go_sem] theorem PZ227_167 : PZ227[167]? = some (.pointer none) := by kernel_rfl
@[simp, go_sem] theorem PZ227_168 : PZ227[168]? = some (.pointer none) := by kernel_rfl
@[simp, go_sem] theorem PZ227_169 : PZ227[169]? = some (.slice none 0 0) := by kernel_rfl
@[simp, go_sem] theorem PZ227_170 : PZ227[170]? = some (.slice none 0 0) := by kernel_rfl
@[simp, go_sem] theorem PZ227_171 : PZ227[171]? = some (.map none) := by kernel_rfl
@[simp, go_sem] theorem PZ227_172 : PZ227[172]? = some (.map none) := by kernel_rfl
@[simp, go_sem] theorem PZ227_173 : PZ227[173]? = some (.map none) := by kernel_rfl
@[simp, go_sem] theorem PZ227_174 : PZ227[174]? = some (.map none) := by kernel_rfl
@[simp, go_sem] theorem PZ227_175 : PZ227[175]? = some (.map none) := by kernel_rfl
@[simp, go_sem] theorem PZ227_176 : PZ227[176]? = some (.map none) := by kernel_rfl
@[simp, go_sem] theorem PZ227_177 : PZ227[177]? = some (.slice none 0 0) := by kernel_rfl
@[simp, go_sem] theorem PZ227_178 : PZ227[178]? = some (.string ⟨#[]⟩) := by kernel_rfl
@[simp, go_sem] theorem PZ227_179 : PZ227[179]? = some (.nilIface) := by kernel_rfl
@[simp, go_sem] theorem PZ227_180 : PZ227[180]? = some (.nilIface) := by kernel_rfl
@[simp, go_sem] theorem PZ227_181 : PZ227[181]? = some (.nilIface) := by kernel_rfl
@[simp, go_sem] theorem PZ227_182 : PZ227[182]? = some (.nilIface) := by kernel_rfl
@[simp, go_sem] theorem PZ227_183 : PZ227[183]? = some (.nilIface) := by kernel_rfl
@[simp, go_sem] theorem PZ227_184 : PZ227[184]? = some (.nilIface) := by kernel_rfl
@[simp, go_sem] theorem PZ227_185 : PZ227[185]? = some (.nilIface) := by kernel_rfl
@[simp, go_sem] theorem PZ227_186 : PZ227[186]? = some (.nilIface) := by kernel_rfl
@[simp, go_sem] theorem PZ227_187 : PZ227[187]? = some (.pointer none) := by kernel_rfl
@[simp, go_sem] theorem PZ227_188 : PZ227[188]? = some (.nilIface) := by kernel_rfl
@[simp, go_sem] theorem PZ227_189 : PZ227[189]? = some (.int .i32 0) := by kernel_rfl
@[simp, go_sem] theorem PZ227_190 : PZ227[190]? = some (.map none) := by kernel_rfl
@[simp, go_sem] theorem PZ227_191 : PZ227[191]? = some (.nilIface) := by kernel_rfl
@[simp, go_sem] theorem PZ227_192 : PZ227[192]? = some (.nilIface) := by kernel_rfl
@[simp, go_sem] theorem PZ227_193 : PZ227[193]? = some (.int .i32 0) := by kernel_rfl
@[simp, go_sem] theorem PZ227_194 : PZ227[194]? = some (.bool false) := by kernel_rfl
@[simp, go_sem] theorem PZ227_195 : PZ227[195]? = some (.bool false) := by kernel_rfl
@[simp, go_sem] theorem PZ227_196 : PZ227[196]? = some (.slice none 0 0) := by kernel_rfl
@[simp, go_sem] theorem PZ227_197 : PZ227[197]? = some (.map none) := by kernel_rfl
@[simp, go_sem] theorem PZ227_198 : PZ227[198]? = some (.slice none 0 0) := by kernel_rfl
@[simp, go_sem] theorem PZ227_199 : PZ227[199]? = some (.slice none 0 0) := by kernel_rfl
@[simp, go_sem] theorem PZ227_200 : PZ227[200]? = some (.slice none 0 0) := by kernel_rfl
@[simp, go_sem] theorem PZ227_201 : PZ227[201]? = some (.slice none 0 0) := by kernel_rfl
@[simp, go_sem] theorem PZ227_202 : PZ227[202]? = some (.slice none 0 0) := by kernel_rfl
@[simp, go_sem] theorem PZ227_203 : PZ227[203]? = some (.slice none 0 0) := by kernel_rfl
@[simp, go_sem] theorem PZ227_204 : PZ227[204]? = some (.string ⟨#[]⟩) := by kernel_rfl
@[simp, go_sem] theorem PZ227_205 : PZ227[205]? = some (.int .u32 0) := by kernel_rfl
@[simp, go_sem] theorem PZ227_206 : PZ227[206]? = some (.nilFunc) := by kernel_rfl
@[simp, go_sem] theorem PZ227_207 : PZ227[207]? = some (.nilFunc) := by kernel_rfl
@[simp, go_sem] theorem PZ227_208 : PZ227[208]? = some (.nilFunc) := by kernel_rfl
@[simp, go_sem] theorem PZ227_209 : PZ227[209]? = some (.nilFunc) := by kernel_rfl
@[simp, go_sem] theorem PZ227_210 : PZ227[210]? = some (.int .i8 0) := by kernel_rfl
@[simp, go_sem] theorem PZ227_211 : PZ227[211]? = some (.map none) := by kernel_rfl
@[simp, go_sem] theorem PZ227_212 : PZ227[212]? = some (.string ⟨#[]⟩) := by kernel_rfl
@[simp, go_sem] theorem PZ227_213 : PZ227[213]? = some (.string ⟨#[]⟩) := by kernel_rfl
@[simp, go_sem] theorem PZ227_214 : PZ227[214]? = some (.string ⟨#[]⟩) := by kernel_rfl
@[simp, go_sem] theorem PZ227_215 : PZ227[215]? = some (.string ⟨#[]⟩) := by kernel_rfl
@[simp, go_sem] theorem PZ227_216 : PZ227[216]? = some (.string ⟨#[]⟩) := by kernel_rfl
@[simp, go_sem] theorem PZ227_217 : PZ227[217]? = some (.string ⟨#[]⟩) := by kernel_rfl
@[simp, go_sem] theorem PZ227_218 : PZ227[218]? = some (.string ⟨#[]⟩) := by kernel_rfl
@[simp, go_sem] theorem PZ227_219 : PZ227[219]? = some (.string ⟨#[]⟩) := by kernel_rfl
@[simp, go_sem] theorem PZ227_220 : PZ227[220]? = some (.int .u8 0) := by kernel_rfl
@[simp, go_sem] theorem PZ227_221 : PZ227[221]? = some (.int .u32 0) := by kernel_rfl
@[simp, go_sem] theorem PZ227_222 : PZ227[222]? = some (.string ⟨#[]⟩) := by kernel_rfl
@[simp, go_sem] theorem PZ227_223 : PZ227[223]? = some (.int .i32 0) := by kernel_rfl
@[simp, go_sem] theorem PZ227_224 : PZ227[224]? = some (.int .i32 0) := by kernel_rfl
@[simp, go_sem] theorem PZ227_225 : PZ227[225]? = some (.string ⟨#[]⟩) := by kernel_rfl
@[simp, go_sem] theorem PZ227_226 : PZ227[226]? = some (.int .i32 0) := by kernel_rfl
@[simp, go_sem] theorem PZ227_227 : PZ227[227]? = some (.int .i32 0) := by kernel_rfl
@[simp, go_sem] theorem PZ227_228 : PZ227[228]? = some (.string ⟨#[]⟩) := by kernel_rfl
@[simp, go_sem] theorem PZ227_229 : PZ227[229]? = some (.int .i32 0) := by kernel_rfl
@[simp, go_sem] theorem PZ227_230 : PZ227[230]? = some (.int .i32 0) := by kernel_rfl
@[simp, go_sem] theorem PZ227_231 : PZ227[231]? = some (.string ⟨#[]⟩) := by kernel_rfl
@[simp, go_sem] theorem PZ227_232 : PZ227[232]? = some (.int .i32 0) := by kernel_rfl
@[simp, go_sem] theorem PZ227_233 : PZ227[233]? = some (.int .i32 0) := by kernel_rfl
@[simp, go_sem] theorem PZ227_234 : PZ227[234]? = some (.string ⟨#[]⟩) := by kernel_rfl
@[simp, go_sem] theorem PZ227_235 : PZ227[235]? = some (.int .i32 0) := by kernel_rfl
@[simp, go_sem] theorem PZ227_236 : PZ227[236]? = some (.int .i32 0) := by kernel_rfl
@[simp, go_sem] theorem PZ227_237 : PZ227[237]? = some (.string ⟨#[]⟩) := by kernel_rfl
@[simp, go_sem] theorem PZ227_238 : PZ227[238]? = some (.slice none 0 0) := by kernel_rfl
@[simp, go_sem] theorem PZ227_239 : PZ227[239]? = some (.string ⟨#[]⟩) := by kernel_rfl
@[simp, go_sem] theorem PZ227_240 : PZ227[240]? = some (.string ⟨#[]⟩) := by kernel_rfl
@[simp, go_sem] theorem PZ227_241 : PZ227[241]? = some (.string ⟨#[]⟩) := by kernel_rfl
@[simp, go_sem] theorem PZ227_242 : PZ227[242]? = some (.string ⟨#[]⟩) := by kernel_rfl
@[simp, go_sem] theorem PZ227_243 : PZ227[243]? = some (.string ⟨#[]⟩) := by kernel_rfl
@[simp, go_sem] theorem PZ227_244 : PZ227[244]? = some (.int .i32 0) := by kernel_rfl
@[simp, go_sem] theorem PZ227_245 : PZ227[245]? = some (.int .i32 0) := by kernel_rfl
@[simp, go_sem] theorem PZ227_246 : PZ227[246]? = some (.int .i32 0) := by kernel_rfl
@[simp, go_sem] theorem PZ227_247 : PZ227[247]? = some (.int .i32 0) := by kernel_rfl
@[simp, go_sem] theorem PZ227_248 : PZ227[248]? = some (.bool false) := by kernel_rfl
@[simp, go_sem] theorem PZ227_249 : PZ227[249]? = some (.bool false) := by kernel_rfl
@[simp, go_sem] theorem PZ227_250 : PZ227[250]? = some (.bool false) := by kernel_rfl
@[simp, go_sem] theorem PZ227_251 : PZ227[251]? = some (.int .i64 0) := by kernel_rfl
@[simp, go_sem] theorem PZ227_252 : PZ227[252]? = some (.float .f64 0) := by kernel_rfl
@[simp, go_sem] theorem PZ227_253 : PZ227[253]? = some (.int .i64 0) := by kernel_rfl
@[simp, go_sem] theorem PZ227_254 : PZ227[254]? = some (.int .i64 0) := by kernel_rfl
@[simp, go_sem] theorem PZ227_255 : PZ227[255]? = some (.int .i64 0) := by kernel_rfl
@[simp, go_sem] theorem PZ227_256 : PZ227[256]? = some (.int .i64 0) := by kernel_rfl
@[simp, go_sem] theorem PZ227_257 : PZ227[257]? = some (.int .i64 0) := by kernel_rfl
@[simp, go_sem] theorem PZ227_258 : PZ227[258]? = some (.int .i32 0) := by kernel_rfl
@[simp, go_sem] theorem PZ227_259 : PZ227[259]? = some (.int .i32 0) := by kernel_rfl
@[simp, go_sem] theorem PZ227_260 : PZ227[260]? = some (.int .i32 0) := by kernel_rfl
@[simp, go_sem] theorem PZ227_261 : PZ227[261]? = some (.int .i32 0) := by kernel_rfl
@[simp, go_sem] theorem PZ227_262 : PZ227[262]? = some (.int .i32 0) := by kernel_rfl
@[simp, go_sem] theorem PZ227_263 : PZ227[263]? = some (.int .i32 0) := by kernel_rfl
@[simp, go_sem] theorem PZ227_264 : PZ227[264]? = some (.int .i32 0) := by kernel_rfl
@[simp, go_sem] theorem PZ227_265 : PZ227[265]? = some (.int .i32 0) := by kernel_rfl
@[simp, go_sem] theorem PZ227_266 : PZ227[266]? = some (.int .i32 0) := by kernel_rfl
@[simp, go_sem] theorem PZ227_267 : PZ227[267]? = some (.int .i32 0) := by kernel_rfl
@[simp, go_sem] theorem PZ227_268 : PZ227[268]? = some (.int .i32 0) := by kernel_rfl
@[simp, go_sem] theorem PZ227_269 : PZ227[269]? = some (.int .u8 0) := by kernel_rfl
@[simp, go_sem] theorem PZ227_270 : PZ227[270]? = some (.int .u8 0) := by kernel_rfl
@[simp, go_sem] theorem PZ227_271 : PZ227[271]? = some (.int .u8 0) := by kernel_rfl
@[simp, go_sem] theorem PZ227_272 : PZ227[272]? = some (.int .u8 0) := by kernel_rfl
@[simp, go_sem] theorem PZ227_273 : PZ227[273]? = some (.int .u8 0) := by kernel_rfl
@[simp, go_sem] theorem PZ227_274 : PZ227[274]? = some (.int .u8 0) := by kernel_rfl
@[simp, go_sem] theorem PZ227_275 : PZ227[275]? = some (.int .u8 0) := by kernel_rfl
@[simp, go_sem] theorem PZ227_276 : PZ227[276]? = some (.int .u8 0) := by kernel_rfl
@[simp, go_sem] theorem PZ227_277 : PZ227[277]? = some (.bool false) := by kernel_rfl
@[simp, go_sem] theorem PZ227_278 : PZ227[278]? = some (.bool false) := by kernel_rfl
@[simp, go_sem] theorem PZ227_279 : PZ227[279]? = some (.bool false) := by kernel_rfl
@[simp, go_sem] theorem PZ227_280 : PZ227[280]? = some (.int .u8 0) := by kernel_rfl
@[simp, go_sem] theorem PZ227_281 : PZ227[281]? = some (.bool false) := by kernel_rfl
@[simp, go_sem] theorem PZ227_282 : PZ227[282]? = some (.bool false) := by kernel_rfl
@[simp, go_sem] theorem PZ227_283 : PZ227[283]? = some (.bool false) := by kernel_rfl
@[simp, go_sem] theorem PZ227_284 : PZ227[284]? = some (.bool false) := by kernel_rfl
@[simp, go_sem] theorem PZ227_285 : PZ227[285]? = some (.bool false) := by kernel_rfl
@[simp, go_sem] theorem PZ227_286 : PZ227[286]? = some (.int .i64 0) := by kernel_rfl
@[simp, go_sem] theorem PZ227_287 : PZ227[287]? = some (.int .i64 0) := by kernel_rfl
@[simp, go_sem] theorem PZ227_288 : PZ227[288]? = some (.int .i64 0) := by kernel_rfl
@[simp, go_sem] theorem PZ227_289 : PZ227[289]? = some (.int .i64 0) := by kernel_rfl
@[simp, go_sem] theorem PZ227_290 : PZ227[290]? = some (.int .i64 0) := by kernel_rfl
@[simp, go_sem] theorem PZ227_291 : PZ227[291]? = some (.int .i64 0) := by kernel_rfl
@[simp, go_sem] theorem PZ227_292 : PZ227[292]? = some (.int .u32 0) := by kernel_rfl
@[simp, go_sem] theorem PZ227_293 : PZ227[293]? = some (.int .u32 0) := by kernel_rfl
@[simp, go_sem] theorem PZ227_294 : PZ227[294]? = some (.int .u32 0) := by kernel_rfl
@[simp, go_sem] theorem PZ227_295 : PZ227[295]? = some (.int .u32 0) := by kernel_rfl
@[simp, go_sem] theorem PZ227_296 : PZ227[296]? = some (.int .u32 0) := by kernel_rfl
@[simp, go_sem] theorem PZ227_297 : PZ227[297]? = some (.int .u32 0) := by kernel_rfl
@[simp, go_sem] theorem PZ227_298 : PZ227[298]? = some (.int .u32 0) := by kernel_rfl
@[simp, go_sem] theorem PZ227_299 : PZ227[299]? = some (.int .u32 0) := by kernel_rfl
@[simp, go_sem] theorem PZ227_300 : PZ227[300]? = some (.int .u32 0) := by kernel_rfl
@[simp, go_sem] theorem PZ227_301 : PZ227[301]? = some (.int .u32 0) := by kernel_rfl
@[simp, go_sem] theorem PZ227_302 : PZ227[302]? = some (.int .u32 0) := by kernel_rfl
@[simp, go_sem] theorem PZ227_303 : PZ227[303]? = some (.int .u32 0) := by kernel_rfl
@[simp, go_sem] theorem PZ227_304 : PZ227[304]? = some (.int .u32 0) := by kernel_rfl
@[simp, go_sem] theorem PZ227_305 : PZ227[305]? = some (.int .u32 0) := by kernel_rfl
@[simp, go_sem] theorem PZ227_306 : PZ227[306]? = some (.int .u32 0) := by kernel_rfl
@[simp, go_sem] theorem PZ227_307 : PZ227[307]? = some (.int .u32 0) := by kernel_rfl
@[simp, go_sem] theorem PZ227_308 : PZ227[308]? = some (.map none) := by kernel_rfl
@[simp, go_sem] theorem PZ227_309 : PZ227[309]? = some (.map none) := by kernel_rfl
@[simp, go_sem] theorem PZ227_310 : PZ227[310]? = some (.int .u32 0) := by kernel_rfl
@[simp, go_sem] theorem PZ227_311 : PZ227[311]? = some (.int .u32 0) := by kernel_rfl
@[simp, go_sem] theorem PZ227_312 : PZ227[312]? = some (.int .u32 0) := by kernel_rfl
@[simp, go_sem] theorem PZ227_313 : PZ227[313]? = some (.int .u32 0) := by kernel_rfl
@[simp, go_sem] theorem PZ227_314 : PZ227[314]? = some (.int .i32 0) := by kernel_rfl
@[simp, go_sem] theorem PZ227_315 : PZ227[315]? = some (.int .i32 0) := by kernel_rfl
@[simp, go_sem] theorem PZ227_316 : PZ227[316]? = some (.int .i32 0) := by kernel_rfl
@[simp, go_sem] theorem PZ227_317 : PZ227[317]? = some (.int .i32 0) := by kernel_rfl
@[simp, go_sem] theorem PZ227_318 : PZ227[318]? = some (.int .i32 0) := by kernel_rfl
@[simp, go_sem] theorem PZ227_319 : PZ227[319]? = some (.int .i32 0) := by kernel_rfl
@[simp, go_sem] theorem PZ227_320 : PZ227[320]? = some (.int .i32 0) := by kernel_rfl
@[simp, go_sem] theorem PZ227_321 : PZ227[321]? = some (.int .i32 0) := by kernel_rfl
@[simp, go_sem] theorem PZ227_322 : PZ227[322]? = some (.int .i32 0) := by kernel_rfl
@[simp, go_sem] theorem PZ227_323 : PZ227[323]? = some (.int .i32 0) := by kernel_rfl
@[simp, go_sem] theorem PZ227_324 : PZ227[324]? = some (.int .i32 0) := by kernel_rfl
@[simp, go_sem] theorem PZ227_325 : PZ227[325]? = some (.int .i32 0) := by kernel_rfl
@[simp, go_sem] theorem PZ227_326 : PZ227[326]? = some (.int .i32 0) := by kernel_rfl
@[simp, go_sem] theorem PZ227_327 : PZ227[327]? = some (.int .i32 0) := by kernel_rfl
@[simp, go_sem] theorem PZ227_328 : PZ227[328]? = some (.int .i32 0) := by kernel_rfl
@[simp, go_sem] theorem PZ227_329 : PZ227[329]? = some (.int .i32 0) := by kernel_rfl
@[simp, go_sem] theorem PZ227_330 : PZ227[330]? = some (.int .i32 0) := by kernel_rfl
@[simp, go_sem] theorem PZ227_331 : PZ227[331]? = some (.bool false) := by kernel_rfl
@[simp, go_sem] theorem PZ227_332 : PZ227[332]? = some (.bool false) := by kernel_rfl
@[simp, go_sem] theorem PZ227_333 : PZ227[333]? = some (.bool false) := by kernel_rfl
@[simp, go_sem] theorem PZ227_334 : PZ227[334]? = some (.bool false) := by kernel_rfl
@[simp, go_sem] theorem PZ227_335 : PZ227[335]? = some (.bool false) := by kernel_rfl
@[simp, go_sem] theorem PZ227_336 : PZ227[336]? = some (.bool false) := by kernel_rfl
@[simp, go_sem] theorem PZ227_337 : PZ227[337]? = some (.bool false) := by kernel_rfl
@[simp, go_sem] theorem PZ227_338 : PZ227[338]? = some (.bool false) := by kernel_rfl
@[simp, go_sem] theorem PZ227_339 : PZ227[339]? = some (.int .i64 0) := by kernel_rfl
@[simp, go_sem] theorem PZ227_340 : PZ227[340]? = some (.int .i32 0) := by kernel_rfl
@[simp, go_sem] theorem PZ227_341 : PZ227[341]? = some (.bool false) := by kernel_rfl
@[simp, go_sem] theorem PZ227_342 : PZ227[342]? = some (.bool false) := by kernel_rfl
@[simp, go_sem] theorem PZ227_343 : PZ227[343]? = some (.bool false) := by kernel_rfl
@[simp, go_sem] theorem PZ227_344 : PZ227[344]? = some (.bool false) := by kernel_rfl
@[simp, go_sem] theorem PZ227_345 : PZ227[345]? = some (.bool false) := by kernel_rfl
@[simp, go_sem] theorem PZ227_346 : PZ227[346]? = some (.bool false) := by kernel_rfl
@[simp, go_sem] theorem PZ227_347 : PZ227[347]? = some (.bool false) := by kernel_rfl
@[simp, go_sem] theorem PZ227_348 : PZ227[348]? = some (.bool false) := by kernel_rfl
@[simp, go_sem] theorem PZ227_349 : PZ227[349]? = some (.bool false) := by kernel_rfl
@[simp, go_sem] theorem PZ227_350 : PZ227[350]? = some (.bool false) := by kernel_rfl
@[simp, go_sem] theorem PZ227_351 : PZ227[351]? = some (.bool false) := by kernel_rfl
@[simp, go_sem] theorem PZ227_352 : PZ227[352]? = some (.bool false) := by kernel_rfl
@[go_sem ↓] theorem fa227_0 (b o : Nat) (w : World) : (Instr.fieldAt 227 (.pointer (some ⟨b, o, none⟩)) 0).run Try.prog w = .ok (.pointer (some ⟨b, o, none⟩)) w := by kernel_rfl
@[go_sem ↓] theorem fa227_1 (b o : Nat) (w : World) : (Instr.fieldAt 227 (.pointer (some ⟨b, o, none⟩)) 1).run Try.prog w = .ok (.pointer (some ⟨b, o + 51, none⟩)) w := by kernel_rfl
@[go_sem ↓] theorem fa227_2 (b o : Nat) (w : World) : (Instr.fieldAt 227 (.pointer (some ⟨b, o, none⟩)) 2).run Try.prog w = .ok (.pointer (some ⟨b, o + 57, none⟩)) w := by kernel_rfl
@[go_sem ↓] theorem fa227_3 (b o : Nat) (w : World) : (Instr.fieldAt 227 (.pointer (some ⟨b, o, none⟩)) 3).run Try.prog w = .ok (.pointer (some ⟨b, o + 67, none⟩)) w := by kernel_rfl
@[go_sem ↓] theorem fa227_4 (b o : Nat) (w : World) : (Instr.fieldAt 227 (.pointer (some ⟨b, o, none⟩)) 4).run Try.prog w = .ok (.pointer (some ⟨b, o + 77, none⟩)) w := by kernel_rfl
@[go_sem ↓] theorem fa227_5 (b o : Nat) (w : World) : (Instr.fieldAt 227 (.pointer (some ⟨b, o, none⟩)) 5).run Try.prog w = .ok (.pointer (some ⟨b, o + 92, none⟩)) w := by kernel_rfl
@[go_sem ↓] theorem fa227_6 (b o : Nat) (w : World) : (Instr.fieldAt 227 (.pointer (some ⟨b, o, none⟩)) 6).run Try.prog w = .ok (.pointer (some ⟨b, o + 103, none⟩)) w := by kernel_rfl
@[go_sem ↓] theorem fa227_7 (b o : Nat) (w : World) : (Instr.fieldAt 227 (.pointer (some ⟨b, o, none⟩)) 7).run Try.prog w = .ok (.pointer (some ⟨b, o + 104, none⟩)) w := by kernel_rfl
@[go_sem ↓] theorem fa227_8 (b o : Nat) (w : World) : (Instr.fieldAt 227 (.pointer (some ⟨b, o, none⟩)) 8).run Try.prog w = .ok (.pointer (some ⟨b, o + 105, none⟩)) w := by kernel_rfl
@[go_sem ↓] theorem fa227_9 (b o : Nat) (w : World) : (Instr.fieldAt 227 (.pointer (some ⟨b, o, none⟩)) 9).run Try.prog w = .ok (.pointer (some ⟨b, o + 106, none⟩)) w := by kernel_rfl
@[go_sem ↓] theorem fa227_10 (b o : Nat) (w : World) : (Instr.fieldAt 227 (.pointer (some ⟨b, o, none⟩)) 10).run Try.prog w = .ok (.pointer (some ⟨b, o + 107, none⟩)) w := by kernel_rfl
@[go_sem ↓] theorem fa227_11 (b o : Nat) (w : World) : (Instr.fieldAt 227 (.pointer (some ⟨b, o, none⟩)) 11).run Try.prog w = .ok (.pointer (some ⟨b, o + 108, none⟩)) w := by kernel_rfl
@[go_sem ↓] theorem fa227_12 (b o : Nat) (w : World) : (Instr.fieldAt 227 (.pointer (some ⟨b, o, none⟩)) 12).run Try.prog w = .ok (.pointer (some ⟨b, o + 109, none⟩)) w := by kernel_rfl
@[go_sem ↓] theorem fa227_13 (b o : Nat) (w : World) : (Instr.fieldAt 227 (.pointer (some ⟨b, o, none⟩)) 13).run Try.prog w = .ok (.pointer (some ⟨b, o + 110, none⟩)) w := by kernel_rfl
@[go_sem ↓] theorem fa227_14 (b o : Nat) (w : World) : (Instr.fieldAt 227 (.pointer (some ⟨b, o, none⟩)) 14).run Try.prog w = .ok (.pointer (some ⟨b, o + 111, none⟩)) w := by kernel_rfl
@[go_sem ↓] theorem fa227_15 (b o : Nat) (w : World) : (Instr.fieldAt 227 (.pointer (some ⟨b, o, none⟩)) 15).run Try.prog w = .ok (.pointer (some ⟨b, o + 112, none⟩)) w := by kernel_rfl
@[go_sem ↓] theorem fa227_16 (b o : Nat) (w : World) : (Instr.fieldAt 227 (.pointer (some ⟨b, o, none⟩)) 16).run Try.prog w = .ok (.pointer (some ⟨b, o + 113, none⟩)) w := by kernel_rfl
@[go_sem ↓] theorem fa227_17 (b o : Nat) (w : World) : (Instr.fieldAt 227 (.pointer (some ⟨b, o, none⟩)) 17).run Try.prog w = .ok (.pointer (some ⟨b, o + 114, none⟩)) w := by kernel_rfl
@[go_sem ↓] theorem fa227_18 (b o : Nat) (w : World) : (Instr.fieldAt 227 (.pointer (some ⟨b, o, none⟩)) 18).run Try.prog w = .ok (.pointer (some ⟨b, o + 115, none⟩)) w := by kernel_rfl
@[go_sem ↓] theorem fa227_19 (b o : Nat) (w : World) : (Instr.fieldAt 227 (.pointer (some ⟨b, o, none⟩)) 19).run Try.prog w = .ok (.pointer (some ⟨b, o + 116, none⟩)) w := by kernel_rfl
@[go_sem ↓] theorem fa227_20 (b o : Nat) (w : World) : (Instr.fieldAt 227 (.pointer (some ⟨b, o, none⟩)) 20).run Try.prog w = .ok (.pointer (some ⟨b, o + 117, none⟩)) w := by kernel_rfl
@[go_sem ↓] theorem fa227_21 (b o : Nat) (w : World) : (Instr.fieldAt 227 (.pointer (some ⟨b, o, none⟩)) 21).run Try.prog w = .ok (.pointer (some ⟨b, o + 118, none⟩)) w := by kernel_rfl
@[go_sem ↓] theorem fa227_22 (b o : Nat) (w : World) : (Instr.fieldAt 227 (.pointer (some ⟨b, o, none⟩)) 22).run Try.prog w = .ok (.pointer (some ⟨b, o + 151, none⟩)) w := by kernel_rfl
@[go_sem ↓] theorem fa227_23 (b o : Nat) (w : World) : (Instr.fieldAt 227 (.pointer (some ⟨b, o, none⟩)) 23).run Try.prog w = .ok (.pointer (some ⟨b, o + 152, none⟩)) w := by kernel_rfl
@[go_sem ↓] theorem fa227_24 (b o : Nat) (w : World) : (Instr.fieldAt 227 (.pointer (some ⟨b, o, none⟩)) 24).run Try.prog w = .ok (.pointer (some ⟨b, o + 153, none⟩)) w := by kernel_rfl
@[go_sem ↓] theorem fa227_25 (b o : Nat) (w : World) : (Instr.fieldAt 227 (.pointer (some ⟨b, o, none⟩)) 25).run Try.prog w = .ok (.pointer (some ⟨b, o + 154, none⟩)) w := by kernel_rfl
@[go_sem ↓] theorem fa227_26 (b o : Nat) (w : World) : (Instr.fieldAt 227 (.pointer (some ⟨b, o, none⟩)) 26).run Try.prog w = .ok (.pointer (some ⟨b, o + 155, none⟩)) w := by kernel_rfl
@[go_sem ↓] theorem fa227_27 (b o : Nat) (w : World) : (Instr.fieldAt 227 (.pointer (some ⟨b, o, none⟩)) 27).run Try.prog w = .ok (.pointer (some ⟨b, o + 156, none⟩)) w := by kernel_rfl
@[go_sem ↓] theorem fa227_28 (b o : Nat) (w : World) : (Instr.fieldAt 227 (.pointer (some ⟨b, o, none⟩)) 28).run Try.prog w = .ok (.pointer (some ⟨b, o + 157, none⟩)) w := by kernel_rfl
@[go_sem ↓] theorem fa227_29 (b o : Nat) (w : World) : (Instr.fieldAt 227 (.pointer (some ⟨b, o, none⟩)) 29).run Try.prog w = .ok (.pointer (some ⟨b, o + 158, none⟩)) w := by kernel_rfl
@[go_sem ↓] theorem fa227_30 (b o : Nat) (w : World) : (Instr.fieldAt 227 (.pointer (some ⟨b, o, none⟩)) 30).run Try.prog w = .ok (.pointer (some ⟨b, o + 159, none⟩)) w := by kernel_rfl
@[go_sem ↓] theorem fa227_31 (b o : Nat) (w : World) : (Instr.fieldAt 227 (.pointer (some ⟨b, o, none⟩)) 31).run Try.prog w = .ok (.pointer (some ⟨b, o + 160, none⟩)) w := by kernel_rfl
@[go_sem ↓] theorem fa227_32 (b o : Nat) (w : World) : (Instr.fieldAt 227 (.pointer (some ⟨b, o, none⟩)) 32).run Try.prog w = .ok (.pointer (some ⟨b, o + 161, none⟩)) w := by kernel_rfl
@[go_sem ↓] theorem fa227_33 (b o : Nat) (w : World) : (Instr.fieldAt 227 (.pointer (some ⟨b, o, none⟩)) 33).run Try.prog w = .ok (.pointer (some ⟨b, o + 162, none⟩)) w := by kernel_rfl
@[go_sem ↓] theorem fa227_34 (b o : Nat) (w : World) : (Instr.fieldAt 227 (.pointer (some ⟨b, o, none⟩)) 34).run Try.prog w = .ok (.pointer (some ⟨b, o + 163, none⟩)) w := by kernel_rfl
@[go_sem ↓] theorem fa227_35 (b o : Nat) (w : World) : (Instr.fieldAt 227 (.pointer (some ⟨b, o, none⟩)) 35).run Try.prog w = .ok (.pointer (some ⟨b, o + 164, none⟩)) w := by kernel_rfl
@[go_sem ↓] theorem fa227_36 (b o : Nat) (w : World) : (Instr.fieldAt 227 (.pointer (some ⟨b, o, none⟩)) 36).run Try.prog w = .ok (.pointer (some ⟨b, o + 165, none⟩)) w := by kernel_rfl
@[go_sem ↓] theorem fa227_37 (b o : Nat) (w : World) : (Instr.fieldAt 227 (.pointer (some ⟨b, o, none⟩)) 37).run Try.prog w = .ok (.pointer (some ⟨b, o + 166, none⟩)) w := by kernel_rfl
@[go_sem ↓] theorem fa227_38 (b o : Nat) (w : World) : (Instr.fieldAt 227 (.pointer (some ⟨b, o, none⟩)) 38).run Try.prog w = .ok (.pointer (some ⟨b, o + 167, none⟩)) w := by kernel_rfl
@[go_sem ↓] theorem fa227_39 (b o : Nat) (w : World) : (Instr.fieldAt 227 (.pointer (some ⟨b, o, none⟩)) 39).run Try.prog w = .ok (.pointer (some ⟨b, o + 168, none⟩)) w := by kernel_rfl
@[go_sem ↓] theorem fa227_40 (b o : Nat) (w : World) : (Instr.fieldAt 227 (.pointer (some ⟨b, o, none⟩)) 40).run Try.prog w = .ok (.pointer (some ⟨b, o + 169, none⟩)) w := by kernel_rfl
@[go_sem ↓] theorem fa227_41 (b o : Nat) (w : World) : (Instr.fieldAt 227 (.pointer (some ⟨b, o, none⟩)) 41).run Try.prog w = .ok (.pointer (some ⟨b, o + 170, none⟩)) w := by kernel_rfl
@[go_sem ↓] theorem fa227_42 (b o : Nat) (w : World) : (Instr.fieldAt 227 (.pointer (some ⟨b, o, none⟩)) 42).run Try.prog w = .ok (.pointer (some ⟨b, o + 171, none⟩)) w := by kernel_rfl
@[go_sem ↓] theorem fa227_43 (b o : Nat) (w : World) : (Instr.fieldAt 227 (.pointer (some ⟨b, o, none⟩)) 43).run Try.prog w = .ok (.pointer (some ⟨b, o + 172, none⟩)) w := by kernel_rfl
@[go_sem ↓] theorem fa227_44 (b o : Nat) (w : World) : (Instr.fieldAt 227 (.pointer (some ⟨b, o, none⟩)) 44).run Try.prog w = .ok (.pointer (some ⟨b, o + 173, none⟩)) w := by kernel_rfl
@[go_sem ↓] theorem fa227_45 (b o : Nat) (w : World) : (Instr.fieldAt 227 (.pointer (some ⟨b, o, none⟩)) 45).run Try.prog w = .ok (.pointer (some ⟨b, o + 174, none⟩)) w := by kernel_rfl
@[go_sem ↓] theorem fa227_46 (b o : Nat) (w : World) : (Instr.fieldAt 227 (.pointer (some ⟨b, o, none⟩)) 46).run Try.prog w = .ok (.pointer (some ⟨b, o + 175, none⟩)) w := by kernel_rfl
@[go_sem ↓] theorem fa227_47 (b o : Nat) (w : World) : (Instr.fieldAt 227 (.pointer (some ⟨b, o, none⟩)) 47).run Try.prog w = .ok (.pointer (some ⟨b, o + 176, none⟩)) w := by kernel_rfl
@[go_sem ↓] theorem fa227_48 (b o : Nat) (w : World) : (Instr.fieldAt 227 (.pointer (some ⟨b, o, none⟩)) 48).run Try.prog w = .ok (.pointer (some ⟨b, o + 177, none⟩)) w := by kernel_rfl
@[go_sem ↓] theorem fa227_49 (b o : Nat) (w : World) : (Instr.fieldAt 227 (.pointer (some ⟨b, o, none⟩)) 49).run Try.prog w = .ok (.pointer (some ⟨b, o + 178, none⟩)) w := by kernel_rfl
@[go_sem ↓] theorem fa227_50 (b o : Nat) (w : World) : (Instr.fieldAt 227 (.pointer (some ⟨b, o, none⟩)) 50).run Try.prog w = .ok (.pointer (some ⟨b, o + 179, none⟩)) w := by kernel_rfl
@[go_sem ↓] theorem fa227_51 (b o : Nat) (w : World) : (Instr.fieldAt 227 (.pointer (some ⟨b, o, none⟩)) 51).run Try.prog w = .ok (.pointer (some ⟨b, o + 180, none⟩)) w := by kernel_rfl
@[go_sem ↓] theorem fa227_52 (b o : Nat) (w : World) : (Instr.fieldAt 227 (.pointer (some ⟨b, o, none⟩)) 52).run Try.prog w = .ok (.pointer (some ⟨b, o + 181, none⟩)) w := by kernel_rfl
@[go_sem ↓] theorem fa227_53 (b o : Nat) (w : World) : (Instr.fieldAt 227 (.pointer (some ⟨b, o, none⟩)) 53).run Try.prog w = .ok (.pointer (some ⟨b, o + 182, none⟩)) w := by kernel_rfl
@[go_sem ↓] theorem fa227_54 (b o : Nat) (w : World) : (Instr.fieldAt 227 (.pointer (some ⟨b, o, none⟩)) 54).run Try.prog w = .ok (.pointer (some ⟨b, o + 183, none⟩)) w := by kernel_rfl
@[go_sem ↓] theorem fa227_55 (b o : Nat) (w : World) : (Instr.fieldAt 227 (.pointer (some ⟨b, o, none⟩)) 55).run Try.prog w = .ok (.pointer (some ⟨b, o + 184, none⟩)) w := by kernel_rfl
@[go_sem ↓] theorem fa227_56 (b o : Nat) (w : World) : (Instr.fieldAt 227 (.pointer (some ⟨b, o, none⟩)) 56).run Try.prog w = .ok (.pointer (some ⟨b, o + 185, none⟩)) w := by kernel_rfl
@[go_sem ↓] theorem fa227_57 (b o : Nat) (w : World) : (Instr.fieldAt 227 (.pointer (some ⟨b, o, none⟩)) 57).run Try.prog w = .ok (.pointer (some ⟨b, o + 186, none⟩)) w := by kernel_rfl
@[go_sem ↓] theorem fa227_58 (b o : Nat) (w : World) : (Instr.fieldAt 227 (.pointer (some ⟨b, o, none⟩)) 58).run Try.prog w = .ok (.pointer (some ⟨b, o + 187, none⟩)) w := by kernel_rfl
@[go_sem ↓] theorem fa227_59 (b o : Nat) (w : World) : (Instr.fieldAt 227 (.pointer (some ⟨b, o, none⟩)) 59).run Try.prog w = .ok (.pointer (some ⟨b, o + 188, none⟩)) w := by kernel_rfl
@[go_sem ↓] theorem fa227_60 (b o : Nat) (w : World) : (Instr.fieldAt 227 (.pointer (some ⟨b, o, none⟩)) 60).run Try.prog w = .ok (.pointer (some ⟨b, o + 190, none⟩)) w := by kernel_rfl
@[go_sem ↓] theorem fa227_61 (b o : Nat) (w : World) : (Instr.fieldAt 227 (.pointer (some ⟨b, o, none⟩)) 61).run Try.prog w = .ok (.pointer (some ⟨b, o + 191, none⟩)) w := by kernel_rfl
@[go_sem ↓] theorem fa227_62 (b o : Nat) (w : World) : (Instr.fieldAt 227 (.pointer (some ⟨b, o, none⟩)) 62).run Try.prog w = .ok (.pointer (some ⟨b, o + 192, none⟩)) w := by kernel_rfl
@[go_sem ↓] theorem fa227_63 (b o : Nat) (w : World) : (Instr.fieldAt 227 (.pointer (some ⟨b, o, none⟩)) 63).run Try.prog w = .ok (.pointer (some ⟨b, o + 196, none⟩)) w := by kernel_rfl
@[go_sem ↓] theorem fa227_64 (b o : Nat) (w : World) : (Instr.fieldAt 227 (.pointer (some ⟨b, o, none⟩)) 64).run Try.prog w = .ok (.pointer (some ⟨b, o + 197, none⟩)) w := by kernel_rfl
@[go_sem ↓] theorem fa227_65 (b o : Nat) (w : World) : (Instr.fieldAt 227 (.pointer (some ⟨b, o, none⟩)) 65).run Try.prog w = .ok (.pointer (some ⟨b, o + 198, none⟩)) w := by kernel_rfl
@[go_sem ↓] theorem fa227_66 (b o : Nat) (w : World) : (Instr.fieldAt 227 (.pointer (some ⟨b, o, none⟩)) 66).run Try.prog w = .ok (.pointer (some ⟨b, o + 199, none⟩)) w := by kernel_rfl
@[go_sem ↓] theorem fa227_67 (b o : Nat) (w : World) : (Instr.fieldAt 227 (.pointer (some ⟨b, o, none⟩)) 67).run Try.prog w = .ok (.pointer (some ⟨b, o + 200, none⟩)) w := by kernel_rfl
@[go_sem ↓] theorem fa227_68 (b o : Nat) (w : World) : (Instr.fieldAt 227 (.pointer (some ⟨b, o, none⟩)) 68).run Try.prog w = .ok (.pointer (some ⟨b, o + 201, none⟩)) w := by kernel_rfl
@[go_sem ↓] theorem fa227_69 (b o : Nat) (w : World) : (Instr.fieldAt 227 (.pointer (some ⟨b, o, none⟩)) 69).run Try.prog w = .ok (.pointer (some ⟨b, o + 286, none⟩)) w := by kernel_rfl
@[go_sem ↓] theorem fa227_70 (b o : Nat) (w : World) : (Instr.fieldAt 227 (.pointer (some ⟨b, o, none⟩)) 70).run Try.prog w = .ok (.pointer (some ⟨b, o + 287, none⟩)) w := by kernel_rfl
@[go_sem ↓] theorem fa227_71 (b o : Nat) (w : World) : (Instr.fieldAt 227 (.pointer (some ⟨b, o, none⟩)) 71).run Try.prog w = .ok (.pointer (some ⟨b, o + 288, none⟩)) w := by kernel_rfl
@[go_sem ↓] theorem fa227_72 (b o : Nat) (w : World) : (Instr.fieldAt 227 (.pointer (some ⟨b, o, none⟩)) 72).run Try.prog w = .ok (.pointer (some ⟨b, o + 289, none⟩)) w := by kernel_rfl
@[go_sem ↓] theorem fa227_73 (b o : Nat) (w : World) : (Instr.fieldAt 227 (.pointer (some ⟨b, o, none⟩)) 73).run Try.prog w = .ok (.pointer (some ⟨b, o + 290, none⟩)) w := by kernel_rfl
@[go_sem ↓] theorem fa227_74 (b o : Nat) (w : World) : (Instr.fieldAt 227 (.pointer (some ⟨b, o, none⟩)) 74).run Try.prog w = .ok (.pointer (some ⟨b, o + 291, none⟩)) w := by kernel_rfl
@[go_sem ↓] theorem fa227_75 (b o : Nat) (w : World) : (Instr.fieldAt 227 (.pointer (some ⟨b, o, none⟩)) 75).run Try.prog w = .ok (.pointer (some ⟨b, o + 292, none⟩)) w := by kernel_rfl
@[go_sem ↓] theorem fa227_76 (b o : Nat) (w : World) : (Instr.fieldAt 227 (.pointer (some ⟨b, o, none⟩)) 76).run Try.prog w = .ok (.pointer (some ⟨b, o + 294, none⟩)) w := by kernel_rfl
@[go_sem ↓] theorem fa227_77 (b o : Nat) (w : World) : (Instr.fieldAt 227 (.pointer (some ⟨b, o, none⟩)) 77).run Try.prog w = .ok (.pointer (some ⟨b, o + 296, none⟩)) w := by kernel_rfl
@[go_sem ↓] theorem fa227_78 (b o : Nat) (w : World) : (Instr.fieldAt 227 (.pointer (some ⟨b, o, none⟩)) 78).run Try.prog w = .ok (.pointer (some ⟨b, o + 298, none⟩)) w := by kernel_rfl
@[go_sem ↓] theorem fa227_79 (b o : Nat) (w : World) : (Instr.fieldAt 227 (.pointer (some ⟨b, o, none⟩)) 79).run Try.prog w = .ok (.pointer (some ⟨b, o + 300, none⟩)) w := by kernel_rfl
@[go_sem ↓] theorem fa227_80 (b o : Nat) (w : World) : (Instr.fieldAt 227 (.pointer (some ⟨b, o, none⟩)) 80).run Try.prog w = .ok (.pointer (some ⟨b, o + 302, none⟩)) w := by kernel_rfl
@[go_sem ↓] theorem fa227_81 (b o : Nat) (w : World) : (Instr.fieldAt 227 (.pointer (some ⟨b, o, none⟩)) 81).run Try.prog w = .ok (.pointer (some ⟨b, o + 304, none⟩)) w := by kernel_rfl
@[go_sem ↓] theorem fa227_82 (b o : Nat) (w : World) : (Instr.fieldAt 227 (.pointer (some ⟨b, o, none⟩)) 82).run Try.prog w = .ok (.pointer (some ⟨b, o + 306, none⟩)) w := by kernel_rfl
@[go_sem ↓] theorem fa227_83 (b o : Nat) (w : World) : (Instr.fieldAt 227 (.pointer (some ⟨b, o, none⟩)) 83).run Try.prog w = .ok (.pointer (some ⟨b, o + 308, none⟩)) w := by kernel_rfl
@[go_sem ↓] theorem fa227_84 (b o : Nat) (w : World) : (Instr.fieldAt 227 (.pointer (some ⟨b, o, none⟩)) 84).run Try.prog w = .ok (.pointer (some ⟨b, o + 309, none⟩)) w := by kernel_rfl
@[go_sem ↓] theorem fa227_85 (b o : Nat) (w : World) : (Instr.fieldAt 227 (.pointer (some ⟨b, o, none⟩)) 85).run Try.prog w = .ok (.pointer (some ⟨b, o + 310, none⟩)) w := by kernel_rfl
@[go_sem ↓] theorem fa227_86 (b o : Nat) (w : World) : (Instr.fieldAt 227 (.pointer (some ⟨b, o, none⟩)) 86).run Try.prog w = .ok (.pointer (some ⟨b, o + 312, none⟩)) w := by kernel_rfl
@[go_sem ↓] theorem fa227_87 (b o : Nat) (w : World) : (Instr.fieldAt 227 (.pointer (some ⟨b, o, none⟩)) 87).run Try.prog w = .ok (.pointer (some ⟨b, o + 314, none⟩)) w := by kernel_rfl
@[go_sem ↓] theorem fa227_88 (b o : Nat) (w : World) : (Instr.fieldAt 227 (.pointer (some ⟨b, o, none⟩)) 88).run Try.prog w = .ok (.pointer (some ⟨b, o + 316, none⟩)) w := by kernel_rfl
@[go_sem ↓] theorem fa227_89 (b o : Nat) (w : World) : (Instr.fieldAt 227 (.pointer (some ⟨b, o, none⟩)) 89).run Try.prog w = .ok (.pointer (some ⟨b, o + 318, none⟩)) w := by kernel_rfl
@[go_sem ↓] theorem fa227_90 (b o : Nat) (w : World) : (Instr.fieldAt 227 (.pointer (some ⟨b, o, none⟩)) 90).run Try.prog w = .ok (.pointer (some ⟨b, o + 320, none⟩)) w := by kernel_rfl
@[go_sem ↓] theorem fa227_91 (b o : Nat) (w : World) : (Instr.fieldAt 227 (.pointer (some ⟨b, o, none⟩)) 91).run Try.prog w = .ok (.pointer (some ⟨b, o + 322, none⟩)) w := by kernel_rfl
@[go_sem ↓] theorem fa227_92 (b o : Nat) (w : World) : (Instr.fieldAt 227 (.pointer (some ⟨b, o, none⟩)) 92).run Try.prog w = .ok (.pointer (some ⟨b, o + 324, none⟩)) w := by kernel_rfl
@[go_sem ↓] theorem fa227_93 (b o : Nat) (w : World) : (Instr.fieldAt 227 (.pointer (some ⟨b, o, none⟩)) 93).run Try.prog w = .ok (.pointer (some ⟨b, o + 326, none⟩)) w := by kernel_rfl
@[go_sem ↓] theorem fa227_94 (b o : Nat) (w : World) : (Instr.fieldAt 227 (.pointer (some ⟨b, o, none⟩)) 94).run Try.prog w = .ok (.pointer (some ⟨b, o + 327, none⟩)) w := by kernel_rfl
@[go_sem ↓] theorem fa227_95 (b o : Nat) (w : World) : (Instr.fieldAt 227 (.pointer (some ⟨b, o, none⟩)) 95).run Try.prog w = .ok (.pointer (some ⟨b, o + 328, none⟩)) w := by kernel_rfl
@[go_sem ↓] theorem fa227_96 (b o : Nat) (w : World) : (Instr.fieldAt 227 (.pointer (some ⟨b, o, none⟩)) 96).run Try.prog w = .ok (.pointer (some ⟨b, o + 329, none⟩)) w := by kernel_rfl
@[go_sem ↓] theorem fa227_97 (b o : Nat) (w : World) : (Instr.fieldAt 227 (.pointer (some ⟨b, o, none⟩)) 97).run Try.prog w = .ok (.pointer (some ⟨b, o + 339, none⟩)) w := by kernel_rfl
@[go_sem ↓] theorem fa227_98 (b o : Nat) (w : World) : (Instr.fieldAt 227 (.pointer (some ⟨b, o, none⟩)) 98).run Try.prog w = .ok (.pointer (some ⟨b, o + 340, none⟩)) w := by kernel_rfl
@[go_sem ↓] theorem fa227_99 (b o : Nat) (w : World) : (Instr.fieldAt 227 (.pointer (some ⟨b, o, none⟩)) 99).run Try.prog w = .ok (.pointer (some ⟨b, o + 341, none⟩)) w := by kernel_rfl
@[go_sem ↓] theorem fa227_100 (b o : Nat) (w : World) : (Instr.fieldAt 227 (.pointer (some ⟨b, o, none⟩)) 100).run Try.prog w = .ok (.pointer (some ⟨b, o + 342, none⟩)) w := by kernel_rfl
@[go_sem ↓] theorem fa227_101 (b o : Nat) (w : World) : (Instr.fieldAt 227 (.pointer (some ⟨b, o, none⟩)) 101).run Try.prog w = .ok (.pointer (some ⟨b, o + 343, none⟩)) w := by kernel_rfl
@[go_sem ↓] theorem fa227_102 (b o : Nat) (w : World) : (Instr.fieldAt 227 (.pointer (some ⟨b, o, none⟩)) 102).run Try.prog w = .ok (.pointer (some ⟨b, o + 344, none⟩)) w := by kernel_rfl
@[go_sem ↓] theorem fa227_103 (b o : Nat) (w : World) : (Instr.fieldAt 227 (.pointer (some ⟨b, o, none⟩)) 103).run Try.prog w = .ok (.pointer (some ⟨b, o + 345, none⟩)) w := by kernel_rfl
@[go_sem ↓] theorem fa227_104 (b o : Nat) (w : World) : (Instr.fieldAt 227 (.pointer (some ⟨b, o, none⟩)) 104).run Try.prog w = .ok (.pointer (some ⟨b, o + 346, none⟩)) w := by kernel_rfl
@[go_sem ↓] theorem fa227_105 (b o : Nat) (w : World) : (Instr.fieldAt 227 (.pointer (some ⟨b, o, none⟩)) 105).run Try.prog w = .ok (.pointer (some ⟨b, o + 347, none⟩)) w := by kernel_rfl
@[go_sem ↓] theorem fa227_106 (b o : Nat) (w : World) : (Instr.fieldAt 227 (.pointer (some ⟨b, o, none⟩)) 106).run Try.prog w = .ok (.pointer (some ⟨b, o + 348, none⟩)) w := by kernel_rfl
@[go_sem ↓] theorem fa227_107 (b o : Nat) (w : World) : (Instr.fieldAt 227 (.pointer (some ⟨b, o, none⟩)) 107).run Try.prog w = .ok (.pointer (some ⟨b, o + 349, none⟩)) w := by kernel_rfl
@[go_sem ↓] theorem fa227_108 (b o : Nat) (w : World) : (Instr.fieldAt 227 (.pointer (some ⟨b, o, none⟩)) 108).run Try.prog w = .ok (.pointer (some ⟨b, o + 350, none⟩)) w := by kernel_rfl
@[go_sem ↓] theorem fa227_109 (b o : Nat) (w : World) : (Instr.fieldAt 227 (.pointer (some ⟨b, o, none⟩)) 109).run Try.prog w = .ok (.pointer (some ⟨b, o + 351, none⟩)) w := by kernel_rfl
@[go_sem ↓] theorem fa227_110 (b o : Nat) (w : World) : (Instr.fieldAt 227 (.pointer (some ⟨b, o, none⟩)) 110).run Try.prog w = .ok (.pointer (some ⟨b, o + 352, none⟩)) w := by kernel_rfl

end Go.Proofs.Ytmbbabikbmkjpab
