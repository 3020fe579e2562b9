/-
  The struct types of many fields: the zero value's cells behind a name, where each field lies, what each zero cell holds.
-/
import Derived.Test.YtpehladamabedaaKit
namespace Go.Proofs.Ytpehladamabedaa
set_option maxRecDepth 100000

noncomputable def PZ265 : Array Value := match (Try.prog.info? 265).bind (·.zero) with | some (.agg c) => c | _ => #[]
@[go_sem ↓] theorem zv265 (w : World) : (zeroValue 265).run Try.prog w = .ok (.agg PZ265) w := by kernel_rfl
@[simp, go_sem] theorem PZ265_size : PZ265.size = 353 := by kernel_rfl
@[simp, go_sem] theorem PZ265_0 : PZ265[0]? = some (.slice none 0 0) := by kernel_rfl
@[simp, go_sem] theorem PZ265_1 : PZ265[1]? = some (.nilIface) := by kernel_rfl
@[simp, go_sem] theorem PZ265_2 : PZ265[2]? = some (.slice none 0 0) := by kernel_rfl
@[simp, go_sem] theorem PZ265_3 : PZ265[3]? = some (.int .u32 0) := by kernel_rfl
@[simp, go_sem] theorem PZ265_4 : PZ265[4]? = some (.nilIface) := by kernel_rfl
@[simp, go_sem] theorem PZ265_5 : PZ265[5]? = some (.slice none 0 0) := by kernel_rfl
@[simp, go_sem] theorem PZ265_6 : PZ265[6]? = some (.int .u32 0) := by kernel_rfl
@[simp, go_sem] theorem PZ265_7 : PZ265[7]? = some (.bool false) := by kernel_rfl
@[simp, go_sem] theorem PZ265_8 : PZ265[8]? = some (.bool false) := by kernel_rfl
@[simp, go_sem] theorem PZ265_9 : PZ265[9]? = some (.bool false) := by kernel_rfl
@[simp, go_sem] theorem PZ265_10 : PZ265[10]? = some (.string ⟨#[]⟩) := by kernel_rfl
@[simp, go_sem] theorem PZ265_11 : PZ265[11]? = some (.bool false) := by kernel_rfl
@[simp, go_sem] theorem PZ265_12 : PZ265[12]? = some (.bool false) := by kernel_rfl
@[simp, go_sem] theorem PZ265_13 : PZ265[13]? = some (.pointer none) := by kernel_rfl
@[simp, go_sem] theorem PZ265_14 : PZ265[14]? = some (.pointer none) := by kernel_rfl
@[simp, go_sem] theorem PZ265_15 : PZ265[15]? = some (.pointer none) := by kernel_rfl
@[simp, go_sem] theorem PZ265_16 : PZ265[16]? = some (.slice none 0 0) := by kernel_rfl
@[simp, go_sem] theorem PZ265_17 : PZ265[17]? = some (.pointer none) := by kernel_rfl
@[simp, go_sem] theorem PZ265_18 : PZ265[18]? = some (.string ⟨#[]⟩) := by kernel_rfl
@[simp, go_sem] theorem PZ265_19 : PZ265[19]? = some (.pointer none) := by kernel_rfl
@[simp, go_sem] theorem PZ265_20 : PZ265[20]? = some (.int .i32 0) := by kernel_rfl
@[simp, go_sem] theorem PZ265_21 : PZ265[21]? = some (.int .i32 0) := by kernel_rfl
@[simp, go_sem] theorem PZ265_22 : PZ265[22]? = some (.int .u8 0) := by kernel_rfl
@[simp, go_sem] theorem PZ265_23 : PZ265[23]? = some (.int .u64 0) := by kernel_rfl
@[simp, go_sem] theorem PZ265_24 : PZ265[24]? = some (.int .u64 0) := by kernel_rfl
@[simp, go_sem] theorem PZ265_25 : PZ265[25]? = some (.int .u64 0) := by kernel_rfl
@[simp, go_sem] theorem PZ265_26 : PZ265[26]? = some (.int .u8 0) := by kernel_rfl
@[simp, go_sem] theorem PZ265_27 : PZ265[27]? = some (.int .u8 0) := by kernel_rfl
@[simp, go_sem] theorem PZ265_28 : PZ265[28]? = some (.int .u8 0) := by kernel_rfl
@[simp, go_sem] theorem PZ265_29 : PZ265[29]? = some (.int .u8 0) := by kernel_rfl
@[simp, go_sem] theorem PZ265_30 : PZ265[30]? = some (.int .u8 0) := by kernel_rfl
@[simp, go_sem] theorem PZ265_31 : PZ265[31]? = some (.int .u8 0) := by kernel_rfl
@[simp, go_sem] theorem PZ265_32 : PZ265[32]? = some (.bool false) := by kernel_rfl
@[simp, go_sem] theorem PZ265_33 : PZ265[33]? = some (.bool false) := by kernel_rfl
@[simp, go_sem] theorem PZ265_34 : PZ265[34]? = some (.int .u8 0) := by kernel_rfl
@[simp, go_sem] theorem PZ265_35 : PZ265[35]? = some (.int .u8 0) := by kernel_rfl
@[simp, go_sem] theorem PZ265_36 : PZ265[36]? = some (.int .u8 0) := by kernel_rfl
@[simp, go_sem] theorem PZ265_37 : PZ265[37]? = some (.int .u8 0) := by kernel_rfl
@[simp, go_sem] theorem PZ265_38 : PZ265[38]? = some (.int .u8 0) := by kernel_rfl
@[simp, go_sem] theorem PZ265_39 : PZ265[39]? = some (.bool false) := by kernel_rfl
@[simp, go_sem] theorem PZ265_40 : PZ265[40]? = some (.bool false) := by kernel_rfl
@[simp, go_sem] theorem PZ265_41 : PZ265[41]? = some (.bool false) := by kernel_rfl
@[simp, go_sem] theorem PZ265_42 : PZ265[42]? = some (.bool false) := by kernel_rfl
@[simp, go_sem] theorem PZ265_43 : PZ265[43]? = some (.bool false) := by kernel_rfl
@[simp, go_sem] theorem PZ265_44 : PZ265[44]? = some (.bool false) := by kernel_rfl
@[simp, go_sem] theorem PZ265_45 : PZ265[45]? = some (.bool false) := by kernel_rfl
@[simp, go_sem] theorem PZ265_46 : PZ265[46]? = some (.bool false) := by kernel_rfl
@[simp, go_sem] theorem PZ265_47 : PZ265[47]? = some (.bool false) := by kernel_rfl
@[simp, go_sem] theorem PZ265_48 : PZ265[48]? = some (.bool false) := by kernel_rfl
@[simp, go_sem] theorem PZ265_49 : PZ265[49]? = some (.bool false) := by kernel_rfl
@[simp, go_sem] theorem PZ265_50 : PZ265[50]? = some (.bool false) := by kernel_rfl
@[simp, go_sem] theorem PZ265_51 : PZ265[51]? = some (.nilFunc) := by kernel_rfl
@[simp, go_sem] theorem PZ265_52 : PZ265[52]? = some (.nilFunc) := by kernel_rfl
@[simp, go_sem] theorem PZ265_53 : PZ265[53]? = some (.nilFunc) := by kernel_rfl
@[simp, go_sem] theorem PZ265_54 : PZ265[54]? = some (.nilFunc) := by kernel_rfl
@[simp, go_sem] theorem PZ265_55 : PZ265[55]? = some (.int .i8 0) := by kernel_rfl
@[simp, go_sem] theorem PZ265_56 : PZ265[56]? = some (.map none) := by kernel_rfl
@[simp, go_sem] theorem PZ265_57 : PZ265[57]? = some (.string ⟨#[]⟩) := by kernel_rfl
@[simp, go_sem] theorem PZ265_58 : PZ265[58]? = some (.string ⟨#[]⟩) := by kernel_rfl
@[simp, go_sem] theorem PZ265_59 : PZ265[59]? = some (.string ⟨#[]⟩) := by kernel_rfl
@[simp, go_sem] theorem PZ265_60 : PZ265[60]? = some (.string ⟨#[]⟩) := by kernel_rfl
@[simp, go_sem] theorem PZ265_61 : PZ265[61]? = some (.string ⟨#[]⟩) := by kernel_rfl
@[simp, go_sem] theorem PZ265_62 : PZ265[62]? = some (.string ⟨#[]⟩) := by kernel_rfl
@[simp, go_sem] theorem PZ265_63 : PZ265[63]? = some (.string ⟨#[]⟩) := by kernel_rfl
@[simp, go_sem] theorem PZ265_64 : PZ265[64]? = some (.string ⟨#[]⟩) := by kernel_rfl
@[simp, go_sem] theorem PZ265_65 : PZ265[65]? = some (.int .u8 0) := by kernel_rfl
@[simp, go_sem] theorem PZ265_66 : PZ265[66]? = some (.int .u32 0) := by kernel_rfl
@[simp, go_sem] theorem PZ265_67 : PZ265[67]? = some (.string ⟨#[]⟩) := by kernel_rfl
@[simp, go_sem] theorem PZ265_68 : PZ265[68]? = some (.string ⟨#[]⟩) := by kernel_rfl
@[simp, go_sem] theorem PZ265_69 : PZ265[69]? = some (.string ⟨#[]⟩) := by kernel_rfl
@[simp, go_sem] theorem PZ265_70 : PZ265[70]? = some (.int .i32 0) := by kernel_rfl
@[simp, go_sem] theorem PZ265_71 : PZ265[71]? = some (.int .i32 0) := by kernel_rfl
@[simp, go_sem] theorem PZ265_72 : PZ265[72]? = some (.int .i32 0) := by kernel_rfl
@[simp, go_sem] theorem PZ265_73 : PZ265[73]? = some (.int .i32 0) := by kernel_rfl
@[simp, go_sem] theorem PZ265_74 : PZ265[74]? = some (.bool false) := by kernel_rfl
@[simp, go_sem] theorem PZ265_75 : PZ265[75]? = some (.bool false) := by kernel_rfl
@[simp, go_sem] theorem PZ265_76 : PZ265[76]? = some (.bool false) := by kernel_rfl
@[simp, go_sem] theorem PZ265_77 : PZ265[77]? = some (.pointer none) := by kernel_rfl
@[simp, go_sem] theorem PZ265_78 : PZ265[78]? = some (.pointer none) := by kernel_rfl
@[simp, go_sem] theorem PZ265_79 : PZ265[79]? = some (.int .i32 0) := by kernel_rfl
@[simp, go_sem] theorem PZ265_80 : PZ265[80]? = some (.int .i32 0) := by kernel_rfl
@[simp, go_sem] theorem PZ265_81 : PZ265[81]? = some (.int .i32 0) := by kernel_rfl
@[simp, go_sem] theorem PZ265_82 : PZ265[82]? = some (.int .u8 0) := by kernel_rfl
@[simp, go_sem] theorem PZ265_83 : PZ265[83]? = some (.int .u8 0) := by kernel_rfl
@[simp, go_sem] theorem PZ265_84 : PZ265[84]? = some (.bool false) := by kernel_rfl
@[simp, go_sem] theorem PZ265_85 : PZ265[85]? = some (.bool false) := by kernel_rfl
@[simp, go_sem] theorem PZ265_86 : PZ265[86]? = some (.bool false) := by kernel_rfl
@[simp, go_sem] theorem PZ265_87 : PZ265[87]? = some (.bool false) := by kernel_rfl
@[simp, go_sem] theorem PZ265_88 : PZ265[88]? = some (.bool false) := by kernel_rfl
@[simp, go_sem] theorem PZ265_89 : PZ265[89]? = some (.bool false) := by kernel_rfl
@[simp, go_sem] theorem PZ265_90 : PZ265[90]? = some (.bool false) := by kernel_rfl
@[simp, go_sem] theorem PZ265_91 : PZ265[91]? = some (.bool false) := by kernel_rfl
@[simp, go_sem] theorem PZ265_92 : PZ265[92]? = some (.pointer none) := by kernel_rfl
@[simp, go_sem] theorem PZ265_93 : PZ265[93]? = some (.pointer none) := by kernel_rfl
@[simp, go_sem] theorem PZ265_94 : PZ265[94]? = some (.pointer none) := by kernel_rfl
@[simp, go_sem] theorem PZ265_95 : PZ265[95]? = some (.bool false) := by kernel_rfl
@[simp, go_sem] theorem PZ265_96 : PZ265[96]? = some (.bool false) := by kernel_rfl
@[simp, go_sem] theorem PZ265_97 : PZ265[97]? = some (.pointer none) := by kernel_rfl
@[simp, go_sem] theorem PZ265_98 : PZ265[98]? = some (.bool false) := by kernel_rfl
@[simp, go_sem] theorem PZ265_99 : PZ265[99]? = some (.bool false) := by kernel_rfl
@[simp, go_sem] theorem PZ265_100 : PZ265[100]? = some (.bool false) := by kernel_rfl
@[simp, go_sem] theorem PZ265_101 : PZ265[101]? = some (.bool false) := by kernel_rfl
@[simp, go_sem] theorem PZ265_102 : PZ265[102]? = some (.bool false) := by kernel_rfl
@[simp, go_sem] theorem PZ265_103 : PZ265[103]? = some (.slice none 0 0) := by kernel_rfl
@[simp, go_sem] theorem PZ265_104 : PZ265[104]? = some (.pointer none) := by kernel_rfl
@[simp, go_sem] theorem PZ265_105 : PZ265[105]? = some (.pointer none) := by kernel_rfl
@[simp, go_sem] theorem PZ265_106 : PZ265[106]? = some (.slice none 0 0) := by kernel_rfl
@[simp, go_sem] theorem PZ265_107 : PZ265[107]? = some (.nilFunc) := by kernel_rfl
@[simp, go_sem] theorem PZ265_108 : PZ265[108]? = some (.slice none 0 0) := by kernel_rfl
@[simp, go_sem] theorem PZ265_109 : PZ265[109]? = some (.slice none 0 0) := by kernel_rfl
@[simp, go_sem] theorem PZ265_110 : PZ265[110]? = some (.map none) := by kernel_rfl
@[simp, go_sem] theorem PZ265_111 : PZ265[111]? = some (.map none) := by kernel_rfl
@[simp, go_sem] theorem PZ265_112 : PZ265[112]? = some (.map none) := by kernel_rfl
@[simp, go_sem] theorem PZ265_113 : PZ265[113]? = some (.map none) := by kernel_rfl
@[simp, go_sem] theorem PZ265_114 : PZ265[114]? = some (.map none) := by kernel_rfl
@[simp, go_sem] theorem PZ265_115 : PZ265[115]? = some (.map none) := by kernel_rfl
@[simp, go_sem] theorem PZ265_116 : PZ265[116]? = some (.slice none 0 0) := by kernel_rfl
@[simp, go_sem] theorem PZ265_117 : PZ265[117]? = some (.map none) := by kernel_rfl
@[simp, go_sem] theorem PZ265_118 : PZ265[118]? = some (.slice none 0 0) := by kernel_rfl
@[simp, go_sem] theorem PZ265_119 : PZ265[119]? = some (.int .u8 0) := by kernel_rfl
@[simp, go_sem] theorem PZ265_120 : PZ265[120]? = some (.int .u8 0) := by kernel_rfl
@[simp, go_sem] theorem PZ265_121 : PZ265[121]? = some (.int .u8 0) := by kernel_rfl
@[simp, go_sem] theorem PZ265_122 : PZ265[122]? = some (.int .u8 0) := by kernel_rfl
@[simp, go_sem] theorem PZ265_123 : PZ265[123]? = some (.int .u8 0) := by kernel_rfl
@[simp, go_sem] theorem PZ265_124 : PZ265[124]? = some (.int .u8 0) := by kernel_rfl
@[simp, go_sem] theorem PZ265_125 : PZ265[125]? = some (.int .u8 0) := by kernel_rfl
@[simp, go_sem] theorem PZ265_126 : PZ265[126]? = some (.int .u8 0) := by kernel_rfl
@[simp, go_sem] theorem PZ265_127 : PZ265[127]? = some (.int .u8 0) := by kernel_rfl
@[simp, go_sem] theorem PZ265_128 : PZ265[128]? = some (.int .u8 0) := by kernel_rfl
@[simp, go_sem] theorem PZ265_129 : PZ265[129]? = some (.int .u8 0) := by kernel_rfl
@[simp, go_sem] theorem PZ265_130 : PZ265[130]? = some (.int .u8 0) := by kernel_rfl
@[simp, go_sem] theorem PZ265_131 : PZ265[131]? = some (.int .u8 0) := by kernel_rfl
@[simp, go_sem] theorem PZ265_132 : PZ265[132]? = some (.int .u8 0) := by kernel_rfl
@[simp, go_sem] theorem PZ265_133 : PZ265[133]? = some (.int .u8 0) := by kernel_rfl
@[simp, go_sem] theorem PZ265_134 : PZ265[134]? = some (.int .u8 0) := by kernel_rfl
@[simp, go_sem] theorem PZ265_135 : PZ265[135]? = some (.int .u8 0) := by kernel_rfl
@[simp, go_sem] theorem PZ265_136 : PZ265[136]? = some (.int .u8 0) := by kernel_rfl
@[simp, go_sem] theorem PZ265_137 : PZ265[137]? = some (.int .u8 0) := by kernel_rfl
@[simp, go_sem] theorem PZ265_138 : PZ265[138]? = some (.int .u8 0) := by kernel_rfl
@[simp, go_sem] theorem PZ265_139 : PZ265[139]? = some (.int .u8 0) := by kernel_rfl
@[simp, go_sem] theorem PZ265_140 : PZ265[140]? = some (.int .u8 0) := by kernel_rfl
@[simp, go_sem] theorem PZ265_141 : PZ265[141]? = some (.int .u8 0) := by kernel_rfl
@[simp, go_sem] theorem PZ265_142 : PZ265[142]? = some (.int .u8 0) := by kernel_rfl
@[simp, go_sem] theorem PZ265_143 : PZ265[143]? = some (.int .u8 0) := by kernel_rfl
@[simp, go_sem] theorem PZ265_144 : PZ265[144]? = some (.int .u8 0) := by kernel_rfl
@[simp, go_sem] theorem PZ265_145 : PZ265[145]? = some (.int .u8 0) := by kernel_rfl
@[simp, go_sem] theorem PZ265_146 : PZ265[146]? = some (.int .u8 0) := by kernel_rfl
@[simp, go_sem] theorem PZ265_147 : PZ265[147]? = some (.int .u8 0) := by kernel_rfl
@[simp, go_sem] theorem PZ265_148 : PZ265[148]? = some (.int .u8 0) := by kernel_rfl
@[simp, go_sem] theorem PZ265_149 : PZ265[149]? = some (.int .u8 0) := by kernel_rfl
@[simp, go_sem] theorem PZ265_150 : PZ265[150]? = some (.int .u8 0) := by kernel_rfl
@[simp, go_sem] theorem PZ265_151 : PZ265[151]? = some (.map none) := by kernel_rfl
@[simp, go_sem] theorem PZ265_152 : PZ265[152]? = some (.map none) := by kernel_rfl
@[simp, go_sem] theorem PZ265_153 : PZ265[153]? = some (.map none) := by kernel_rfl
@[simp, go_sem] theorem PZ265_154 : PZ265[154]? = some (.slice none 0 0) := by kernel_rfl
@[simp, go_sem] theorem PZ265_155 : PZ265[155]? = some (.map none) := by kernel_rfl
@[simp, go_sem] theorem PZ265_156 : PZ265[156]? = some (.map none) := by kernel_rfl
@[simp, go_sem] theorem PZ265_157 : PZ265[157]? = some (.map none) := by kernel_rfl
@[simp, go_sem] theorem PZ265_158 : PZ265[158]? = some (.map none) := by kernel_rfl
@[simp, go_sem] theorem PZ265_159 : PZ265[159]? = some (.nilIface) := by kernel_rfl
@[simp, go_sem] theorem PZ265_160 : PZ265[160]? = some (.nilIface) := by kernel_rfl
@[simp, go_sem] theorem PZ265_161 : PZ265[161]? = some (.map none) := by kernel_rfl
@[simp, go_sem] theorem PZ265_162 : PZ265[162]? = some (.map none) := by kernel_rfl
@[simp, go_sem] theorem PZ265_163 : PZ265[163]? = some (.map none) := by kernel_rfl
@[simp, go_sem] theorem PZ265_164 : PZ265[164]? = some (.map none) := by kernel_rfl
@[simp, go_sem] theorem PZ265_165 : PZ265[165]? = some (.map none) := by kernel_rfl
@[simp, go_sem] theorem PZ265_166 : PZ265[166]? = some (.nilIface) := by kernel_rfl
@[simp, go_sem] theorem PZ265_167 : PZ265[167]? = some (.pointer none) := by kernel_rfl
@[simp, go_sem] theorem PZ265_168 : PZ265[168]? = some (.pointer none) := by kernel_rfl
@[simp, go_sem] theorem PZ265_169 : PZ265[169]? = some (.slice none 0 0) := by kernel_rfl
@[simp, go_sem] theorem PZ265_170 : PZ265[170]? = some (.slice none 0 0) := by kernel_rfl
@[simp, go_sem] theorem PZ265_171 : PZ265[171]? = some (.map none) := by kernel_rfl
@[simp, go_sem] theorem PZ265_172 : PZ265[172]? = some (.map none) := by kernel_rfl
@[simp, go_sem] theorem PZ265_173 : PZ265[173]? = some (.map none) := by kernel_rfl
@[simp, go_sem] theorem PZ265_174 : PZ265[174]? = some (.map none) := by kernel_rfl
@[simp, go_sem] theorem PZ265_175 : PZ265[175]? = some (.map none) := by kernel_rfl
@[simp, go_sem] theorem PZ265_176 : PZ265[176]? = some (.map none) := by kernel_rfl
@[simp, go_sem] theorem PZ265_177 : PZ265[177]? = some (.slice none 0 0) := by kernel_rfl
@[simp, go_sem] theorem PZ265_178 : PZ265[178]? = some (.string ⟨#[]⟩) := by kernel_rfl
@[simp, go_sem] theorem PZ265_179 : PZ265[179]? = some (.nilIface) := by kernel_rfl
@[simp, go_sem] theorem PZ265_180 : PZ265[180]? = some (.nilIface) := by kernel_rfl
@[simp, go_sem] theorem PZ265_181 : PZ265[181]? = some (.nilIface) := by kernel_rfl
@[simp, go_sem] theorem PZ265_182 : PZ265[182]? = some (.nilIface) := by kernel_rfl
@[simp, go_sem] theorem PZ265_183 : PZ265[183]? = some (.nilIface) := by kernel_rfl
@[simp, go_sem] theorem PZ265_184 : PZ265[184]? = some (.nilIface) := by kernel_rfl
@[simp, go_sem] theorem PZ265_185 : PZ265[185]? = some (.nilIface) := by kernel_rfl
@[simp, go_sem] theorem PZ265_186 : PZ265[186]? = some (.nilIface) := by kernel_rfl
@[simp, go_sem] theorem PZ265_187 : PZ265[187]? = some (.pointer none) := by kernel_rfl
@[simp, go_sem] theorem PZ265_188 : PZ265[188]? = some (.nilIface) := by kernel_rfl
@[simp, go_sem] theorem PZ265_189 : PZ265[189]? = some (.int .i32 0) := by kernel_rfl
@[simp, go_sem] theorem PZ265_190 : PZ265[190]? = some (.map none) := by kernel_rfl
@[simp, go_sem] theorem PZ265_191 : PZ265[191]? = some (.nilIface) := by kernel_rfl
@[simp, go_sem] theorem PZ265_192 : PZ265[192]? = some (.nilIface) := by kernel_rfl
@[simp, go_sem] theorem PZ265_193 : PZ265[193]? = some (.int .i32 0) := by kernel_rfl
@[simp, go_sem] theorem PZ265_194 : PZ265[194]? = some (.bool false) := by kernel_rfl
@[simp, go_sem] theorem PZ265_195 : PZ265[195]? = some (.bool false) := by kernel_rfl
@[simp, go_sem] theorem PZ265_196 : PZ265[196]? = some (.slice none 0 0) := by kernel_rfl
@[simp, go_sem] theorem PZ265_197 : PZ265[197]? = some (.map none) := by kernel_rfl
@[simp, go_sem] theorem PZ265_198 : PZ265[198]? = some (.slice none 0 0) := by kernel_rfl
@[simp, go_sem] theorem PZ265_199 : PZ265[199]? = some (.slice none 0 0) := by kernel_rfl
@[simp, go_sem] theorem PZ265_200 : PZ265[200]? = some (.slice none 0 0) := by kernel_rfl
@[simp, go_sem] theorem PZ265_201 : PZ265[201]? = some (.slice none 0 0) := by kernel_rfl
@[simp, go_sem] theorem PZ265_202 : PZ265[202]? = some (.slice none 0 0) := by kernel_rfl
@[simp, go_sem] theorem PZ265_203 : PZ265[203]? = some (.slice none 0 0) := by kernel_rfl
@[simp, go_sem] theorem PZ265_204 : PZ265[204]? = some (.string ⟨#[]⟩) := by kernel_rfl
@[simp, go_sem] theorem PZ265_205 : PZ265[205]? = some (.int .u32 0) := by kernel_rfl
@[simp, go_sem] theorem PZ265_206 : PZ265[206]? = some (.nilFunc) := by kernel_rfl
@[simp, go_sem] theorem PZ265_207 : PZ265[207]? = some (.nilFunc) := by kernel_rfl
@[simp, go_sem] theorem PZ265_208 : PZ265[208]? = some (.nilFunc) := by kernel_rfl
@[simp, go_sem] theorem PZ265_209 : PZ265[209]? = some (.nilFunc) := by kernel_rfl
@[simp, go_sem] theorem PZ265_210 : PZ265[210]? = some (.int .i8 0) := by kernel_rfl
@[simp, go_sem] theorem PZ265_211 : PZ265[211]? = some (.map none) := by kernel_rfl
@[simp, go_sem] theorem PZ265_212 : PZ265[212]? = some (.string ⟨#[]⟩) := by kernel_rfl
@[simp, go_sem] theorem PZ265_213 : PZ265[213]? = some (.string ⟨#[]⟩) := by kernel_rfl
@[simp, go_sem] theorem PZ265_214 : PZ265[214]? = some (.string ⟨#[]⟩) := by kernel_rfl
@[simp, go_sem] theorem PZ265_215 : PZ265[215]? = some (.string ⟨#[]⟩) := by kernel_rfl
@[simp, go_sem] theorem PZ265_216 : PZ265[216]? = some (.string ⟨#[]⟩) := by kernel_rfl
@[simp, go_sem] theorem PZ265_217 : PZ265[217]? = some (.string ⟨#[]⟩) := by kernel_rfl
@[simp, go_sem] theorem PZ265_218 : PZ265[218]? = some (.string ⟨#[]⟩) := by kernel_rfl
@[simp, go_sem] theorem PZ265_219 : PZ265[219]? = some (.string ⟨#[]⟩) := by kernel_rfl
@[simp, go_sem] theorem PZ265_220 : PZ265[220]? = some (.int .u8 0) := by kernel_rfl
@[simp, go_sem] theorem PZ265_221 : PZ265[221]? = some (.int .u32 0) := by kernel_rfl
@[simp, go_sem] theorem PZ265_222 : PZ265[222]? = some (.string ⟨#[]⟩) := by kernel_rfl
@[simp, go_sem] theorem PZ265_223 : PZ265[223]? = some (.int .i32 0) := by kernel_rfl
@[simp, go_sem] theorem PZ265_224 : PZ265[224]? = some (.int .i32 0) := by kernel_rfl
@[simp, go_sem] theorem PZ265_225 : PZ265[225]? = some (.string ⟨#[]⟩) := by kernel_rfl
@[simp, go_sem] theorem PZ265_226 : PZ265[226]? = some (.int .i32 0) := by kernel_rfl
@[simp, go_sem] theorem PZ265_227 : PZ265[227]? = some (.int .i32 0) := by kernel_rfl
@[simp, go_sem] theorem PZ265_228 : PZ265[228]? = some (.string ⟨#[]⟩) := by kernel_rfl
@[simp, go_sem] theorem PZ265_229 : PZ265[229]? = some (.int .i32 0) := by kernel_rfl
@[simp, go_sem] theorem PZ265_230 : PZ265[230]? = some (.int .i32 0) := by kernel_rfl
@[simp, go_sem] theorem PZ265_231 : PZ265[231]? = some (.string ⟨#[]⟩) := by kernel_rfl
@[simp, go_sem] theorem PZ265_232 : PZ265[232]? = some (.int .i32 0) := by kernel_rfl
@[simp, go_sem] theorem PZ265_233 : PZ265[233]? = some (.int .i32 0) := by kernel_rfl
@[simp, go_sem] theorem PZ265_234 : PZ265[234]? = some (.string ⟨#[]⟩) := by kernel_rfl
@[simp, go_sem] theorem PZ265_235 : PZ265[235]? = some (.int .i32 0) := by kernel_rfl
@[simp, go_sem] theorem PZ265_236 : PZ265[236]? = some (.int .i32 0) := by kernel_rfl
@[simp, go_sem] theorem PZ265_237 : PZ265[237]? = some (.string ⟨#[]⟩) := by kernel_rfl
@[simp, go_sem] theorem PZ265_238 : PZ265[238]? = some (.slice none 0 0) := by kernel_rfl
@[simp, go_sem] theorem PZ265_239 : PZ265[239]? = some (.string ⟨#[]⟩) := by kernel_rfl
@[simp, go_sem] theorem PZ265_240 : PZ265[240]? = some (.string ⟨#[]⟩) := by kernel_rfl
@[simp, go_sem] theorem PZ265_241 : PZ265[241]? = some (.string ⟨#[]⟩) := by kernel_rfl
@[simp, go_sem] theorem PZ265_242 : PZ265[242]? = some (.string ⟨#[]⟩) := by kernel_rfl
@[simp, go_sem] theorem PZ265_243 : PZ265[243]? = some (.string ⟨#[]⟩) := by kernel_rfl
@[simp, go_sem] theorem PZ265_244 : PZ265[244]? = some (.int .i32 0) := by kernel_rfl
@[simp, go_sem] theorem PZ265_245 : PZ265[245]? = some (.int .i32 0) := by kernel_rfl
@[simp, go_sem] theorem PZ265_246 : PZ265[246]? = some (.int .i32 0) := by kernel_rfl
@[simp, go_sem] theorem PZ265_247 : PZ265[247]? = some (.int .i32 0) := by kernel_rfl
@[simp, go_sem] theorem PZ265_248 : PZ265[248]? = some (.bool false) := by kernel_rfl
@[simp, go_sem] theorem PZ265_249 : PZ265[249]? = some (.bool false) := by kernel_rfl
@[simp, go_sem] theorem PZ265_250 : PZ265[250]? = some (.bool false) := by kernel_rfl
@[simp, go_sem] theorem PZ265_251 : PZ265[251]? = some (.int .i64 0) := by kernel_rfl
@[simp, go_sem] theorem PZ265_252 : PZ265[252]? = some (.float .f64 0) := by kernel_rfl
@[simp, go_sem] theorem PZ265_253 : PZ265[253]? = some (.int .i64 0) := by kernel_rfl
@[simp, go_sem] theorem PZ265_254 : PZ265[254]? = some (.int .i64 0) := by kernel_rfl
@[simp, go_sem] theorem PZ265_255 : PZ265[255]? = some (.int .i64 0) := by kernel_rfl
@[simp, go_sem] theorem PZ265_256 : PZ265[256]? = some (.int .i64 0) := by kernel_rfl
@[simp, go_sem] theorem PZ265_257 : PZ265[257]? = some (.int .i64 0) := by kernel_rfl
@[simp, go_sem] theorem PZ265_258 : PZ265[258]? = some (.int .i32 0) := by kernel_rfl
@[simp, go_sem] theorem PZ265_259 : PZ265[259]? = some (.int .i32 0) := by kernel_rfl
@[simp, go_sem] theorem PZ265_260 : PZ265[260]? = some (.int .i32 0) := by kernel_rfl
@[simp, go_sem] theorem PZ265_261 : PZ265[261]? = some (.int .i32 0) := by kernel_rfl
@[simp, go_sem] theorem PZ265_262 : PZ265[262]? = some (.int .i32 0) := by kernel_rfl
@[simp, go_sem] theorem PZ265_263 : PZ265[263]? = some (.int .i32 0) := by kernel_rfl
@[simp, go_sem] theorem PZ265_264 : PZ265[264]? = some (.int .i32 0) := by kernel_rfl
@[simp, go_sem] theorem PZ265_265 : PZ265[265]? = some (.int .i32 0) := by kernel_rfl
@[simp, go_sem] theorem PZ265_266 : PZ265[266]? = some (.int .i32 0) := by kernel_rfl
@[simp, go_sem] theorem PZ265_267 : PZ265[267]? = some (.int .i32 0) := by kernel_rfl
@[simp, go_sem] theorem PZ265_268 : PZ265[268]? = some (.int .i32 0) := by kernel_rfl
@[simp, go_sem] theorem PZ265_269 : PZ265[269]? = some (.int .u8 0) := by kernel_rfl
@[simp, go_sem] theorem PZ265_270 : PZ265[270]? = some (.int .u8 0) := by kernel_rfl
@[simp, go_sem] theorem PZ265_271 : PZ265[271]? = some (.int .u8 0) := by kernel_rfl
@[simp, go_sem] theorem PZ265_272 : PZ265[272]? = some (.int .u8 0) := by kernel_rfl
@[simp, go_sem] theorem PZ265_273 : PZ265[273]? = some (.int .u8 0) := by kernel_rfl
@[simp, go_sem] theorem PZ265_274 : PZ265[274]? = some (.int .u8 0) := by kernel_rfl
@[simp, go_sem] theorem PZ265_275 : PZ265[275]? = some (.int .u8 0) := by kernel_rfl
@[simp, go_sem] theorem PZ265_276 : PZ265[276]? = some (.int .u8 0) := by kernel_rfl
@[simp, go_sem] theorem PZ265_277 : PZ265[277]? = some (.bool false) := by kernel_rfl
@[simp, go_sem] theorem PZ265_278 : PZ265[278]? = some (.bool false) := by kernel_rfl
@[simp, go_sem] theorem PZ265_279 : PZ265[279]? = some (.bool false) := by kernel_rfl
@[simp, go_sem] theorem PZ265_280 : PZ265[280]? = some (.int .u8 0) := by kernel_rfl
@[simp, go_sem] theorem PZ265_281 : PZ265[281]? = some (.bool false) := by kernel_rfl
@[simp, go_sem] theorem PZ265_282 : PZ265[282]? = some (.bool false) := by kernel_rfl
@[simp, go_sem] theorem PZ265_283 : PZ265[283]? = some (.bool false) := by kernel_rfl
@[simp, go_sem] theorem PZ265_284 : PZ265[284]? = some (.bool false) := by kernel_rfl
@[simp, go_sem] theorem PZ265_285 : PZ265[285]? = some (.bool false) := by kernel_rfl
@[simp, go_sem] theorem PZ265_286 : PZ265[286]? = some (.int .i64 0) := by kernel_rfl
@[simp, go_sem] theorem PZ265_287 : PZ265[287]? = some (.int .i64 0) := by kernel_rfl
@[simp, go_sem] theorem PZ265_288 : PZ265[288]? = some (.int .i64 0) := by kernel_rfl
@[simp, go_sem] theorem PZ265_289 : PZ265[289]? = some (.int .i64 0) := by kernel_rfl
@[simp, go_sem] theorem PZ265_290 : PZ265[290]? = some (.int .i64 0) := by kernel_rfl
@[simp, go_sem] theorem PZ265_291 : PZ265[291]? = some (.int .i64 0) := by kernel_rfl
@[simp, go_sem] theorem PZ265_292 : PZ265[292]? = some (.int .u32 0) := by kernel_rfl
@[simp, go_sem] theorem PZ265_293 : PZ265[293]? = some (.int .u32 0) := by kernel_rfl
@[simp, go_sem] theorem PZ265_294 : PZ265[294]? = some (.int .u32 0) := by kernel_rfl
@[simp, go_sem] theorem PZ265_295 : PZ265[295]? = some (.int .u32 0) := by kernel_rfl
@[simp, go_sem] theorem PZ265_296 : PZ265[296]? = some (.int .u32 0) := by kernel_rfl
@[simp, go_sem] theorem PZ265_297 : PZ265[297]? = some (.int .u32 0) := by kernel_rfl
@[simp, go_sem] theorem PZ265_298 : PZ265[298]? = some (.int .u32 0) := by kernel_rfl
@[simp, go_sem] theorem PZ265_299 : PZ265[299]? = some (.int .u32 0) := by kernel_rfl
@[simp, go_sem] theorem PZ265_300 : PZ265[300]? = some (.int .u32 0) := by kernel_rfl
@[simp, go_sem] theorem PZ265_301 : PZ265[301]? = some (.int .u32 0) := by kernel_rfl
@[simp, go_sem] theorem PZ265_302 : PZ265[302]? = some (.int .u32 0) := by kernel_rfl
@[simp, go_sem] theorem PZ265_303 : PZ265[303]? = some (.int .u32 0) := by kernel_rfl
@[simp, go_sem] theorem PZ265_304 : PZ265[304]? = some (.int .u32 0) := by kernel_rfl
@[simp, go_sem] theorem PZ265_305 : PZ265[305]? = some (.int .u32 0) := by kernel_rfl
@[simp, go_sem] theorem PZ265_306 : PZ265[306]? = some (.int .u32 0) := by kernel_rfl
@[simp, go_sem] theorem PZ265_307 : PZ265[307]? = some (.int .u32 0) := by kernel_rfl
@[simp, go_sem] theorem PZ265_308 : PZ265[308]? = some (.map none) := by kernel_rfl
@[simp, go_sem] theorem PZ265_309 : PZ265[309]? = some (.map none) := by kernel_rfl
@[simp, go_sem] theorem PZ265_310 : PZ265[310]? = some (.int .u32 0) := by kernel_rfl
@[simp, go_sem] theorem PZ265_311 : PZ265[311]? = some (.int .u32 0) := by kernel_rfl
@[simp, go_sem] theorem PZ265_312 : PZ265[312]? = some (.int .u32 0) := by kernel_rfl
@[simp, go_sem] theorem PZ265_313 : PZ265[313]? = some (.int .u32 0) := by kernel_rfl
@[simp, go_sem] theorem PZ265_314 : PZ265[314]? = some (.int .i32 0) := by kernel_rfl
@[simp, go_sem] theorem PZ265_315 : PZ265[315]? = some (.int .i32 0) := by kernel_rfl
@[simp, go_sem] theorem PZ265_316 : PZ265[316]? = some (.int .i32 0) := by kernel_rfl
@[simp, go_sem] theorem PZ265_317 : PZ265[317]? = some (.int .i32 0) := by kernel_rfl
@[simp, go_sem] theorem PZ265_318 : PZ265[318]? = some (.int .i32 0) := by kernel_rfl
@[simp, go_sem] theorem PZ265_319 : PZ265[319]? = some (.int .i32 0) := by kernel_rfl
@[simp, go_sem] theorem PZ265_320 : PZ265[320]? = some (.int .i32 0) := by kernel_rfl
@[simp, go_sem] theorem PZ265_321 : PZ265[321]? = some (.int .i32 0) := by kernel_rfl
@[simp, go_sem] theorem PZ265_322 : PZ265[322]? = some (.int .i32 0) := by kernel_rfl
@[simp, go_sem] theorem PZ265_323 : PZ265[323]? = some (.int .i32 0) := by kernel_rfl
@[simp, go_sem] theorem PZ265_324 : PZ265[324]? = some (.int .i32 0) := by kernel_rfl
@[simp, go_sem] theorem PZ265_325 : PZ265[325]? = some (.int .i32 0) := by kernel_rfl
@[simp, go_sem] theorem PZ265_326 : PZ265[326]? = some (.int .i32 0) := by kernel_rfl
@[simp, go_sem] theorem PZ265_327 : PZ265[327]? = some (.int .i32 0) := by kernel_rfl
@[simp, go_sem] theorem PZ265_328 : PZ265[328]? = some (.int .i32 0) := by kernel_rfl
@[simp, go_sem] theorem PZ265_329 : PZ265[329]? = some (.int .i32 0) := by kernel_rfl
@[simp, go_sem] theorem PZ265_330 : PZ265[330]? = some (.int .i32 0) := by kernel_rfl
@[simp, go_sem] theorem PZ265_331 : PZ265[331]? = some (.bool false) := by kernel_rfl
@[simp, go_sem] theorem PZ265_332 : PZ265[332]? = some (.bool false) := by kernel_rfl
@[simp, go_sem] theorem PZ265_333 : PZ265[333]? = some (.bool false) := by kernel_rfl
@[simp, go_sem] theorem PZ265_334 : PZ265[334]? = some (.bool false) := by kernel_rfl
@[simp, go_sem] theorem PZ265_335 : PZ265[335]? = some (.bool false) := by kernel_rfl
@[simp, go_sem] theorem PZ265_336 : PZ265[336]? = some (.bool false) := by kernel_rfl
@[simp, go_sem] theorem PZ265_337 : PZ265[337]? = some (.bool false) := by kernel_rfl
@[simp, go_sem] theorem PZ265_338 : PZ265[338]? = some (.bool false) := by kernel_rfl
@[simp, go_sem] theorem PZ265_339 : PZ265[339]? = some (.int .i64 0) := by kernel_rfl
@[simp, go_sem] theorem PZ265_340 : PZ265[340]? = some (.int .i32 0) := by kernel_rfl
@[simp, go_sem] theorem PZ265_341 : PZ265[341]? = some (.bool false) := by kernel_rfl
@[simp, go_sem] theorem PZ265_342 : PZ265[342]? = some (.bool false) := by kernel_rfl
@[simp, go_sem] theorem PZ265_343 : PZ265[343]? = some (.bool false) := by kernel_rfl
@[simp, go_sem] theorem PZ265_344 : PZ265[344]? = some (.bool false) := by kernel_rfl
@[simp, go_sem] theorem PZ265_345 : PZ265[345]? = some (.bool false) := by kernel_rfl
@[simp, go_sem] theorem PZ265_346 : PZ265[346]? = some (.bool false) := by kernel_rfl
@[simp, go_sem] theorem PZ265_347 : PZ265[347]? = some (.bool false) := by kernel_rfl
@[simp, go_sem] theorem PZ265_348 : PZ265[348]? = some (.bool false) := by kernel_rfl
@[simp, go_sem] theorem PZ265_349 : PZ265[349]? = some (.bool false) := by kernel_rfl
@[simp, go_sem] theorem PZ265_350 : PZ265[350]? = some (.bool false) := by kernel_rfl
@[simp, go_sem] theorem PZ265_351 : PZ265[351]? = some (.bool false) := by kernel_rfl
@[simp, go_sem] theorem PZ265_352 : PZ265[352]? = some (.bool false) := by kernel_rfl
@[go_sem ↓] theorem fa265_0 (b o : Nat) (w : World) : (Instr.fieldAt 265 (.pointer (some ⟨b, o, none⟩)) 0).run Try.prog w = .ok (.pointer (some ⟨b, o, none⟩)) w := by kernel_rfl
@[go_sem ↓] theorem fa265_1 (b o : Nat) (w : World) : (Instr.fieldAt 265 (.pointer (some ⟨b, o, none⟩)) 1).run Try.prog w = .ok (.pointer (some ⟨b, o + 51, none⟩)) w := by kernel_rfl
@[go_sem ↓] theorem fa265_2 (b o : Nat) (w : World) : (Instr.fieldAt 265 (.pointer (some ⟨b, o, none⟩)) 2).run Try.prog w = .ok (.pointer (some ⟨b, o + 57, none⟩)) w := by kernel_rfl
@[go_sem ↓] theorem fa265_3 (b o : Nat) (w : World) : (Instr.fieldAt 265 (.pointer (some ⟨b, o, none⟩)) 3).run Try.prog w = .ok (.pointer (some ⟨b, o + 67, none⟩)) w := by kernel_rfl
@[go_sem ↓] theorem fa265_4 (b o : Nat) (w : World) : (Instr.fieldAt 265 (.pointer (some ⟨b, o, none⟩)) 4).run Try.prog w = .ok (.pointer (some ⟨b, o + 77, none⟩)) w := by kernel_rfl
@[go_sem ↓] theorem fa265_5 (b o : Nat) (w : World) : (Instr.fieldAt 265 (.pointer (some ⟨b, o, none⟩)) 5).run Try.prog w = .ok (.pointer (some ⟨b, o + 92, none⟩)) w := by kernel_rfl
@[go_sem ↓] theorem fa265_6 (b o : Nat) (w : World) : (Instr.fieldAt 265 (.pointer (some ⟨b, o, none⟩)) 6).run Try.prog w = .ok (.pointer (some ⟨b, o + 103, none⟩)) w := by kernel_rfl
@[go_sem ↓] theorem fa265_7 (b o : Nat) (w : World) : (Instr.fieldAt 265 (.pointer (some ⟨b, o, none⟩)) 7).run Try.prog w = .ok (.pointer (some ⟨b, o + 104, none⟩)) w := by kernel_rfl
@[go_sem ↓] theorem fa265_8 (b o : Nat) (w : World) : (Instr.fieldAt 265 (.pointer (some ⟨b, o, none⟩)) 8).run Try.prog w = .ok (.pointer (some ⟨b, o + 105, none⟩)) w := by kernel_rfl
@[go_sem ↓] theorem fa265_9 (b o : Nat) (w : World) : (Instr.fieldAt 265 (.pointer (some ⟨b, o, none⟩)) 9).run Try.prog w = .ok (.pointer (some ⟨b, o + 106, none⟩)) w := by kernel_rfl
@[go_sem ↓] theorem fa265_10 (b o : Nat) (w : World) : (Instr.fieldAt 265 (.pointer (some ⟨b, o, none⟩)) 10).run Try.prog w = .ok (.pointer (some ⟨b, o + 107, none⟩)) w := by kernel_rfl
@[go_sem ↓] theorem fa265_11 (b o : Nat) (w : World) : (Instr.fieldAt 265 (.pointer (some ⟨b, o, none⟩)) 11).run Try.prog w = .ok (.pointer (some ⟨b, o + 108, none⟩)) w := by kernel_rfl
@[go_sem ↓] theorem fa265_12 (b o : Nat) (w : World) : (Instr.fieldAt 265 (.pointer (some ⟨b, o, none⟩)) 12).run Try.prog w = .ok (.pointer (some ⟨b, o + 109, none⟩)) w := by kernel_rfl
@[go_sem ↓] theorem fa265_13 (b o : Nat) (w : World) : (Instr.fieldAt 265 (.pointer (some ⟨b, o, none⟩)) 13).run Try.prog w = .ok (.pointer (some ⟨b, o + 110, none⟩)) w := by kernel_rfl
@[go_sem ↓] theorem fa265_14 (b o : Nat) (w : World) : (Instr.fieldAt 265 (.pointer (some ⟨b, o, none⟩)) 14).run Try.prog w = .ok (.pointer (some ⟨b, o + 111, none⟩)) w := by kernel_rfl
@[go_sem ↓] theorem fa265_15 (b o : Nat) (w : World) : (Instr.fieldAt 265 (.pointer (some ⟨b, o, none⟩)) 15).run Try.prog w = .ok (.pointer (some ⟨b, o + 112, none⟩)) w := by kernel_rfl
@[go_sem ↓] theorem fa265_16 (b o : Nat) (w : World) : (Instr.fieldAt 265 (.pointer (some ⟨b, o, none⟩)) 16).run Try.prog w = .ok (.pointer (some ⟨b, o + 113, none⟩)) w := by kernel_rfl
@[go_sem ↓] theorem fa265_17 (b o : Nat) (w : World) : (Instr.fieldAt 265 (.pointer (some ⟨b, o, none⟩)) 17).run Try.prog w = .ok (.pointer (some ⟨b, o + 114, none⟩)) w := by kernel_rfl
@[go_sem ↓] theorem fa265_18 (b o : Nat) (w : World) : (Instr.fieldAt 265 (.pointer (some ⟨b, o, none⟩)) 18).run Try.prog w = .ok (.pointer (some ⟨b, o + 115, none⟩)) w := by kernel_rfl
@[go_sem ↓] theorem fa265_19 (b o : Nat) (w : World) : (Instr.fieldAt 265 (.pointer (some ⟨b, o, none⟩)) 19).run Try.prog w = .ok (.pointer (some ⟨b, o + 116, none⟩)) w := by kernel_rfl
@[go_sem ↓] theorem fa265_20 (b o : Nat) (w : World) : (Instr.fieldAt 265 (.pointer (some ⟨b, o, none⟩)) 20).run Try.prog w = .ok (.pointer (some ⟨b, o + 117, none⟩)) w := by kernel_rfl
@[go_sem ↓] theorem fa265_21 (b o : Nat) (w : World) : (Instr.fieldAt 265 (.pointer (some ⟨b, o, none⟩)) 21).run Try.prog w = .ok (.pointer (some ⟨b, o + 118, none⟩)) w := by kernel_rfl
@[go_sem ↓] theorem fa265_22 (b o : Nat) (w : World) : (Instr.fieldAt 265 (.pointer (some ⟨b, o, none⟩)) 22).run Try.prog w = .ok (.pointer (some ⟨b, o + 151, none⟩)) w := by kernel_rfl
@[go_sem ↓] theorem fa265_23 (b o : Nat) (w : World) : (Instr.fieldAt 265 (.pointer (some ⟨b, o, none⟩)) 23).run Try.prog w = .ok (.pointer (some ⟨b, o + 152, none⟩)) w := by kernel_rfl
@[go_sem ↓] theorem fa265_24 (b o : Nat) (w : World) : (Instr.fieldAt 265 (.pointer (some ⟨b, o, none⟩)) 24).run Try.prog w = .ok (.pointer (some ⟨b, o + 153, none⟩)) w := by kernel_rfl
@[go_sem ↓] theorem fa265_25 (b o : Nat) (w : World) : (Instr.fieldAt 265 (.pointer (some ⟨b, o, none⟩)) 25).run Try.prog w = .ok (.pointer (some ⟨b, o + 154, none⟩)) w := by kernel_rfl
@[go_sem ↓] theorem fa265_26 (b o : Nat) (w : World) : (Instr.fieldAt 265 (.pointer (some ⟨b, o, none⟩)) 26).run Try.prog w = .ok (.pointer (some ⟨b, o + 155, none⟩)) w := by kernel_rfl
@[go_sem ↓] theorem fa265_27 (b o : Nat) (w : World) : (Instr.fieldAt 265 (.pointer (some ⟨b, o, none⟩)) 27).run Try.prog w = .ok (.pointer (some ⟨b, o + 156, none⟩)) w := by kernel_rfl
@[go_sem ↓] theorem fa265_28 (b o : Nat) (w : World) : (Instr.fieldAt 265 (.pointer (some ⟨b, o, none⟩)) 28).run Try.prog w = .ok (.pointer (some ⟨b, o + 157, none⟩)) w := by kernel_rfl
@[go_sem ↓] theorem fa265_29 (b o : Nat) (w : World) : (Instr.fieldAt 265 (.pointer (some ⟨b, o, none⟩)) 29).run Try.prog w = .ok (.pointer (some ⟨b, o + 158, none⟩)) w := by kernel_rfl
@[go_sem ↓] theorem fa265_30 (b o : Nat) (w : World) : (Instr.fieldAt 265 (.pointer (some ⟨b, o, none⟩)) 30).run Try.prog w = .ok (.pointer (some ⟨b, o + 159, none⟩)) w := by kernel_rfl
@[go_sem ↓] theorem fa265_31 (b o : Nat) (w : World) : (Instr.fieldAt 265 (.pointer (some ⟨b, o, none⟩)) 31).run Try.prog w = .ok (.pointer (some ⟨b, o + 160, none⟩)) w := by kernel_rfl
@[go_sem ↓] theorem fa265_32 (b o : Nat) (w : World) : (Instr.fieldAt 265 (.pointer (some ⟨b, o, none⟩)) 32).run Try.prog w = .ok (.pointer (some ⟨b, o + 161, none⟩)) w := by kernel_rfl
@[go_sem ↓] theorem fa265_33 (b o : Nat) (w : World) : (Instr.fieldAt 265 (.pointer (some ⟨b, o, none⟩)) 33).run Try.prog w = .ok (.pointer (some ⟨b, o + 162, none⟩)) w := by kernel_rfl
@[go_sem ↓] theorem fa265_34 (b o : Nat) (w : World) : (Instr.fieldAt 265 (.pointer (some ⟨b, o, none⟩)) 34).run Try.prog w = .ok (.pointer (some ⟨b, o + 163, none⟩)) w := by kernel_rfl
@[go_sem ↓] theorem fa265_35 (b o : Nat) (w : World) : (Instr.fieldAt 265 (.pointer (some ⟨b, o, none⟩)) 35).run Try.prog w = .ok (.pointer (some ⟨b, o + 164, none⟩)) w := by kernel_rfl
@[go_sem ↓] theorem fa265_36 (b o : Nat) (w : World) : (Instr.fieldAt 265 (.pointer (some ⟨b, o, none⟩)) 36).run Try.prog w = .ok (.pointer (some ⟨b, o + 165, none⟩)) w := by kernel_rfl
@[go_sem ↓] theorem fa265_37 (b o : Nat) (w : World) : (Instr.fieldAt 265 (.pointer (some ⟨b, o, none⟩)) 37).run Try.prog w = .ok (.pointer (some ⟨b, o + 166, none⟩)) w := by kernel_rfl
@[go_sem ↓] theorem fa265_38 (b o : Nat) (w : World) : (Instr.fieldAt 265 (.pointer (some ⟨b, o, none⟩)) 38).run Try.prog w = .ok (.pointer (some ⟨b, o + 167, none⟩)) w := by kernel_rfl
@[go_sem ↓] theorem fa265_39 (b o : Nat) (w : World) : (Instr.fieldAt 265 (.pointer (some ⟨b, o, none⟩)) 39).run Try.prog w = .ok (.pointer (some ⟨b, o + 168, none⟩)) w := by kernel_rfl
@[go_sem ↓] theorem fa265_40 (b o : Nat) (w : World) : (Instr.fieldAt 265 (.pointer (some ⟨b, o, none⟩)) 40).run Try.prog w = .ok (.pointer (some ⟨b, o + 169, none⟩)) w := by kernel_rfl
@[go_sem ↓] theorem fa265_41 (b o : Nat) (w : World) : (Instr.fieldAt 265 (.pointer (some ⟨b, o, none⟩)) 41).run Try.prog w = .ok (.pointer (some ⟨b, o + 170, none⟩)) w := by kernel_rfl
@[go_sem ↓] theorem fa265_42 (b o : Nat) (w : World) : (Instr.fieldAt 265 (.pointer (some ⟨b, o, none⟩)) 42).run Try.prog w = .ok (.pointer (some ⟨b, o + 171, none⟩)) w := by kernel_rfl
@[go_sem ↓] theorem fa265_43 (b o : Nat) (w : World) : (Instr.fieldAt 265 (.pointer (some ⟨b, o, none⟩)) 43).run Try.prog w = .ok (.pointer (some ⟨b, o + 172, none⟩)) w := by kernel_rfl
@[go_sem ↓] theorem fa265_44 (b o : Nat) (w : World) : (Instr.fieldAt 265 (.pointer (some ⟨b, o, none⟩)) 44).run Try.prog w = .ok (.pointer (some ⟨b, o + 173, none⟩)) w := by kernel_rfl
@[go_sem ↓] theorem fa265_45 (b o : Nat) (w : World) : (Instr.fieldAt 265 (.pointer (some ⟨b, o, none⟩)) 45).run Try.prog w = .ok (.pointer (some ⟨b, o + 174, none⟩)) w := by kernel_rfl
@[go_sem ↓] theorem fa265_46 (b o : Nat) (w : World) : (Instr.fieldAt 265 (.pointer (some ⟨b, o, none⟩)) 46).run Try.prog w = .ok (.pointer (some ⟨b, o + 175, none⟩)) w := by kernel_rfl
@[go_sem ↓] theorem fa265_47 (b o : Nat) (w : World) : (Instr.fieldAt 265 (.pointer (some ⟨b, o, none⟩)) 47).run Try.prog w = .ok (.pointer (some ⟨b, o + 176, none⟩)) w := by kernel_rfl
@[go_sem ↓] theorem fa265_48 (b o : Nat) (w : World) : (Instr.fieldAt 265 (.pointer (some ⟨b, o, none⟩)) 48).run Try.prog w = .ok (.pointer (some ⟨b, o + 177, none⟩)) w := by kernel_rfl
@[go_sem ↓] theorem fa265_49 (b o : Nat) (w : World) : (Instr.fieldAt 265 (.pointer (some ⟨b, o, none⟩)) 49).run Try.prog w = .ok (.pointer (some ⟨b, o + 178, none⟩)) w := by kernel_rfl
@[go_sem ↓] theorem fa265_50 (b o : Nat) (w : World) : (Instr.fieldAt 265 (.pointer (some ⟨b, o, none⟩)) 50).run Try.prog w = .ok (.pointer (some ⟨b, o + 179, none⟩)) w := by kernel_rfl
@[go_sem ↓] theorem fa265_51 (b o : Nat) (w : World) : (Instr.fieldAt 265 (.pointer (some ⟨b, o, none⟩)) 51).run Try.prog w = .ok (.pointer (some ⟨b, o + 180, none⟩)) w := by kernel_rfl
@[go_sem ↓] theorem fa265_52 (b o : Nat) (w : World) : (Instr.fieldAt 265 (.pointer (some ⟨b, o, none⟩)) 52).run Try.prog w = .ok (.pointer (some ⟨b, o + 181, none⟩)) w := by kernel_rfl
@[go_sem ↓] theorem fa265_53 (b o : Nat) (w : World) : (Instr.fieldAt 265 (.pointer (some ⟨b, o, none⟩)) 53).run Try.prog w = .ok (.pointer (some ⟨b, o + 182, none⟩)) w := by kernel_rfl
@[go_sem ↓] theorem fa265_54 (b o : Nat) (w : World) : (Instr.fieldAt 265 (.pointer (some ⟨b, o, none⟩)) 54).run Try.prog w = .ok (.pointer (some ⟨b, o + 183, none⟩)) w := by kernel_rfl
@[go_sem ↓] theorem fa265_55 (b o : Nat) (w : World) : (Instr.fieldAt 265 (.pointer (some ⟨b, o, none⟩)) 55).run Try.prog w = .ok (.pointer (some ⟨b, o + 184, none⟩)) w := by kernel_rfl
@[go_sem ↓] theorem fa265_56 (b o : Nat) (w : World) : (Instr.fieldAt 265 (.pointer (some ⟨b, o, none⟩)) 56).run Try.prog w = .ok (.pointer (some ⟨b, o + 185, none⟩)) w := by kernel_rfl
@[go_sem ↓] theorem fa265_57 (b o : Nat) (w : World) : (Instr.fieldAt 265 (.pointer (some ⟨b, o, none⟩)) 57).run Try.prog w = .ok (.pointer (some ⟨b, o + 186, none⟩)) w := by kernel_rfl
@[go_sem ↓] theorem fa265_58 (b o : Nat) (w : World) : (Instr.fieldAt 265 (.pointer (some ⟨b, o, none⟩)) 58).run Try.prog w = .ok (.pointer (some ⟨b, o + 187, none⟩)) w := by kernel_rfl
@[go_sem ↓] theorem fa265_59 (b o : Nat) (w : World) : (Instr.fieldAt 265 (.pointer (some ⟨b, o, none⟩)) 59).run Try.prog w = .ok (.pointer (some ⟨b, o + 188, none⟩)) w := by kernel_rfl
@[go_sem ↓] theorem fa265_60 (b o : Nat) (w : World) : (Instr.fieldAt 265 (.pointer (some ⟨b, o, none⟩)) 60).run Try.prog w = .ok (.pointer (some ⟨b, o + 190, none⟩)) w := by kernel_rfl
@[go_sem ↓] theorem fa265_61 (b o : Nat) (w : World) : (Instr.fieldAt 265 (.pointer (some ⟨b, o, none⟩)) 61).run Try.prog w = .ok (.pointer (some ⟨b, o + 191, none⟩)) w := by kernel_rfl
@[go_sem ↓] theorem fa265_62 (b o : Nat) (w : World) : (Instr.fieldAt 265 (.pointer (some ⟨b, o, none⟩)) 62).run Try.prog w = .ok (.pointer (some ⟨b, o + 192, none⟩)) w := by kernel_rfl
@[go_sem ↓] theorem fa265_63 (b o : Nat) (w : World) : (Instr.fieldAt 265 (.pointer (some ⟨b, o, none⟩)) 63).run Try.prog w = .ok (.pointer (some ⟨b, o + 196, none⟩)) w := by kernel_rfl
@[go_sem ↓] theorem fa265_64 (b o : Nat) (w : World) : (Instr.fieldAt 265 (.pointer (some ⟨b, o, none⟩)) 64).run Try.prog w = .ok (.pointer (some ⟨b, o + 197, none⟩)) w := by kernel_rfl
@[go_sem ↓] theorem fa265_65 (b o : Nat) (w : World) : (Instr.fieldAt 265 (.pointer (some ⟨b, o, none⟩)) 65).run Try.prog w = .ok (.pointer (some ⟨b, o + 198, none⟩)) w := by kernel_rfl
@[go_sem ↓] theorem fa265_66 (b o : Nat) (w : World) : (Instr.fieldAt 265 (.pointer (some ⟨b, o, none⟩)) 66).run Try.prog w = .ok (.pointer (some ⟨b, o + 199, none⟩)) w := by kernel_rfl
@[go_sem ↓] theorem fa265_67 (b o : Nat) (w : World) : (Instr.fieldAt 265 (.pointer (some ⟨b, o, none⟩)) 67).run Try.prog w = .ok (.pointer (some ⟨b, o + 200, none⟩)) w := by kernel_rfl
@[go_sem ↓] theorem fa265_68 (b o : Nat) (w : World) : (Instr.fieldAt 265 (.pointer (some ⟨b, o, none⟩)) 68).run Try.prog w = .ok (.pointer (some ⟨b, o + 201, none⟩)) w := by kernel_rfl
@[go_sem ↓] theorem fa265_69 (b o : Nat) (w : World) : (Instr.fieldAt 265 (.pointer (some ⟨b, o, none⟩)) 69).run Try.prog w = .ok (.pointer (some ⟨b, o + 286, none⟩)) w := by kernel_rfl
@[go_sem ↓] theorem fa265_70 (b o : Nat) (w : World) : (Instr.fieldAt 265 (.pointer (some ⟨b, o, none⟩)) 70).run Try.prog w = .ok (.pointer (some ⟨b, o + 287, none⟩)) w := by kernel_rfl
@[go_sem ↓] theorem fa265_71 (b o : Nat) (w : World) : (Instr.fieldAt 265 (.pointer (some ⟨b, o, none⟩)) 71).run Try.prog w = .ok (.pointer (some ⟨b, o + 288, none⟩)) w := by kernel_rfl
@[go_sem ↓] theorem fa265_72 (b o : Nat) (w : World) : (Instr.fieldAt 265 (.pointer (some ⟨b, o, none⟩)) 72).run Try.prog w = .ok (.pointer (some ⟨b, o + 289, none⟩)) w := by kernel_rfl
@[go_sem ↓] theorem fa265_73 (b o : Nat) (w : World) : (Instr.fieldAt 265 (.pointer (some ⟨b, o, none⟩)) 73).run Try.prog w = .ok (.pointer (some ⟨b, o + 290, none⟩)) w := by kernel_rfl
@[go_sem ↓] theorem fa265_74 (b o : Nat) (w : World) : (Instr.fieldAt 265 (.pointer (some ⟨b, o, none⟩)) 74).run Try.prog w = .ok (.pointer (some ⟨b, o + 291, none⟩)) w := by kernel_rfl
@[go_sem ↓] theorem fa265_75 (b o : Nat) (w : World) : (Instr.fieldAt 265 (.pointer (some ⟨b, o, none⟩)) 75).run Try.prog w = .ok (.pointer (some ⟨b, o + 292, none⟩)) w := by kernel_rfl
@[go_sem ↓] theorem fa265_76 (b o : Nat) (w : World) : (Instr.fieldAt 265 (.pointer (some ⟨b, o, none⟩)) 76).run Try.prog w = .ok (.pointer (some ⟨b, o + 294, none⟩)) w := by kernel_rfl
@[go_sem ↓] theorem fa265_77 (b o : Nat) (w : World) : (Instr.fieldAt 265 (.pointer (some ⟨b, o, none⟩)) 77).run Try.prog w = .ok (.pointer (some ⟨b, o + 296, none⟩)) w := by kernel_rfl
@[go_sem ↓] theorem fa265_78 (b o : Nat) (w : World) : (Instr.fieldAt 265 (.pointer (some ⟨b, o, none⟩)) 78).run Try.prog w = .ok (.pointer (some ⟨b, o + 298, none⟩)) w := by kernel_rfl
@[go_sem ↓] theorem fa265_79 (b o : Nat) (w : World) : (Instr.fieldAt 265 (.pointer (some ⟨b, o, none⟩)) 79).run Try.prog w = .ok (.pointer (some ⟨b, o + 300, none⟩)) w := by kernel_rfl
@[go_sem ↓] theorem fa265_80 (b o : Nat) (w : World) : (Instr.fieldAt 265 (.pointer (some ⟨b, o, none⟩)) 80).run Try.prog w = .ok (.pointer (some ⟨b, o + 302, none⟩)) w := by kernel_rfl
@[go_sem ↓] theorem fa265_81 (b o : Nat) (w : World) : (Instr.fieldAt 265 (.pointer (some ⟨b, o, none⟩)) 81).run Try.prog w = .ok (.pointer (some ⟨b, o + 304, none⟩)) w := by kernel_rfl
@[go_sem ↓] theorem fa265_82 (b o : Nat) (w : World) : (Instr.fieldAt 265 (.pointer (some ⟨b, o, none⟩)) 82).run Try.prog w = .ok (.pointer (some ⟨b, o + 306, none⟩)) w := by kernel_rfl
@[go_sem ↓] theorem fa265_83 (b o : Nat) (w : World) : (Instr.fieldAt 265 (.pointer (some ⟨b, o, none⟩)) 83).run Try.prog w = .ok (.pointer (some ⟨b, o + 308, none⟩)) w := by kernel_rfl
@[go_sem ↓] theorem fa265_84 (b o : Nat) (w : World) : (Instr.fieldAt 265 (.pointer (some ⟨b, o, none⟩)) 84).run Try.prog w = .ok (.pointer (some ⟨b, o + 309, none⟩)) w := by kernel_rfl
@[go_sem ↓] theorem fa265_85 (b o : Nat) (w : World) : (Instr.fieldAt 265 (.pointer (some ⟨b, o, none⟩)) 85).run Try.prog w = .ok (.pointer (some ⟨b, o + 310, none⟩)) w := by kernel_rfl
@[go_sem ↓] theorem fa265_86 (b o : Nat) (w : World) : (Instr.fieldAt 265 (.pointer (some ⟨b, o, none⟩)) 86).run Try.prog w = .ok (.pointer (some ⟨b, o + 312, none⟩)) w := by kernel_rfl
@[go_sem ↓] theorem fa265_87 (b o : Nat) (w : World) : (Instr.fieldAt 265 (.pointer (some ⟨b, o, none⟩)) 87).run Try.prog w = .ok (.pointer (some ⟨b, o + 314, none⟩)) w := by kernel_rfl
@[go_sem ↓] theorem fa265_88 (b o : Nat) (w : World) : (Instr.fieldAt 265 (.pointer (some ⟨b, o, none⟩)) 88).run Try.prog w = .ok (.pointer (some ⟨b, o + 316, none⟩)) w := by kernel_rfl
@[go_sem ↓] theorem fa265_89 (b o : Nat) (w : World) : (Instr.fieldAt 265 (.pointer (some ⟨b, o, none⟩)) 89).run Try.prog w = .ok (.pointer (some ⟨b, o + 318, none⟩)) w := by kernel_rfl
@[go_sem ↓] theorem fa265_90 (b o : Nat) (w : World) : (Instr.fieldAt 265 (.pointer (some ⟨b, o, none⟩)) 90).run Try.prog w = .ok (.pointer (some ⟨b, o + 320, none⟩)) w := by kernel_rfl
@[go_sem ↓] theorem fa265_91 (b o : Nat) (w : World) : (Instr.fieldAt 265 (.pointer (some ⟨b, o, none⟩)) 91).run Try.prog w = .ok (.pointer (some ⟨b, o + 322, none⟩)) w := by kernel_rfl
@[go_sem ↓] theorem fa265_92 (b o : Nat) (w : World) : (Instr.fieldAt 265 (.pointer (some ⟨b, o, none⟩)) 92).run Try.prog w = .ok (.pointer (some ⟨b, o + 324, none⟩)) w := by kernel_rfl
@[go_sem ↓] theorem fa265_93 (b o : Nat) (w : World) : (Instr.fieldAt 265 (.pointer (some ⟨b, o, none⟩)) 93).run Try.prog w = .ok (.pointer (some ⟨b, o + 326, none⟩)) w := by kernel_rfl
@[go_sem ↓] theorem fa265_94 (b o : Nat) (w : World) : (Instr.fieldAt 265 (.pointer (some ⟨b, o, none⟩)) 94).run Try.prog w = .ok (.pointer (some ⟨b, o + 327, none⟩)) w := by kernel_rfl
@[go_sem ↓] theorem fa265_95 (b o : Nat) (w : World) : (Instr.fieldAt 265 (.pointer (some ⟨b, o, none⟩)) 95).run Try.prog w = .ok (.pointer (some ⟨b, o + 328, none⟩)) w := by kernel_rfl
@[go_sem ↓] theorem fa265_96 (b o : Nat) (w : World) : (Instr.fieldAt 265 (.pointer (some ⟨b, o, none⟩)) 96).run Try.prog w = .ok (.pointer (some ⟨b, o + 329, none⟩)) w := by kernel_rfl
@[go_sem ↓] theorem fa265_97 (b o : Nat) (w : World) : (Instr.fieldAt 265 (.pointer (some ⟨b, o, none⟩)) 97).run Try.prog w = .ok (.pointer (some ⟨b, o + 339, none⟩)) w := by kernel_rfl
@[go_sem ↓] theorem fa265_98 (b o : Nat) (w : World) : (Instr.fieldAt 265 (.pointer (some ⟨b, o, none⟩)) 98).run Try.prog w = .ok (.pointer (some ⟨b, o + 340, none⟩)) w := by kernel_rfl
@[go_sem ↓] theorem fa265_99 (b o : Nat) (w : World) : (Instr.fieldAt 265 (.pointer (some ⟨b, o, none⟩)) 99).run Try.prog w = .ok (.pointer (some ⟨b, o + 341, none⟩)) w := by kernel_rfl
@[go_sem ↓] theorem fa265_100 (b o : Nat) (w : World) : (Instr.fieldAt 265 (.pointer (some ⟨b, o, none⟩)) 100).run Try.prog w = .ok (.pointer (some ⟨b, o + 342, none⟩)) w := by kernel_rfl
@[go_sem ↓] theorem fa265_101 (b o : Nat) (w : World) : (Instr.fieldAt 265 (.pointer (some ⟨b, o, none⟩)) 101).run Try.prog w = .ok (.pointer (some ⟨b, o + 343, none⟩)) w := by kernel_rfl
@[go_sem ↓] theorem fa265_102 (b o : Nat) (w : World) : (Instr.fieldAt 265 (.pointer (some ⟨b, o, none⟩)) 102).run Try.prog w = .ok (.pointer (some ⟨b, o + 344, none⟩)) w := by kernel_rfl
@[go_sem ↓] theorem fa265_103 (b o : Nat) (w : World) : (Instr.fieldAt 265 (.pointer (some ⟨b, o, none⟩)) 103).run Try.prog w = .ok (.pointer (some ⟨b, o + 345, none⟩)) w := by kernel_rfl
@[go_sem ↓] theorem fa265_104 (b o : Nat) (w : World) : (Instr.fieldAt 265 (.pointer (some ⟨b, o, none⟩)) 104).run Try.prog w = .ok (.pointer (some ⟨b, o + 346, none⟩)) w := by kernel_rfl
@[go_sem ↓] theorem fa265_105 (b o : Nat) (w : World) : (Instr.fieldAt 265 (.pointer (some ⟨b, o, none⟩)) 105).run Try.prog w = .ok (.pointer (some ⟨b, o + 347, none⟩)) w := by kernel_rfl
@[go_sem ↓] theorem fa265_106 (b o : Nat) (w : World) : (Instr.fieldAt 265 (.pointer (some ⟨b, o, none⟩)) 106).run Try.prog w = .ok (.pointer (some ⟨b, o + 348, none⟩)) w := by kernel_rfl
@[go_sem ↓] theorem fa265_107 (b o : Nat) (w : World) : (Instr.fieldAt 265 (.pointer (some ⟨b, o, none⟩)) 107).run Try.prog w = .ok (.pointer (some ⟨b, o + 349, none⟩)) w := by kernel_rfl
@[go_sem ↓] theorem fa265_108 (b o : Nat) (w : World) : (Instr.fieldAt 265 (.pointer (some ⟨b, o, none⟩)) 108).run Try.prog w = .ok (.pointer (some ⟨b, o + 350, none⟩)) w := by kernel_rfl
@[go_sem ↓] theorem fa265_109 (b o : Nat) (w : World) : (Instr.fieldAt 265 (.pointer (some ⟨b, o, none⟩)) 109).run Try.prog w = .ok (.pointer (some ⟨b, o + 351, none⟩)) w := by kernel_rfl
@[go_sem ↓] theorem fa265_110 (b o : Nat) (w : World) : (Instr.fieldAt 265 (.pointer (some ⟨b, o, none⟩)) 110).run Try.prog w = .ok (.pointer (some ⟨b, o + 352, none⟩)) w := by kernel_rfl

end Go.Proofs.Ytpehladamabedaa
