/-
  The struct types of many fields: the zero value's cells behind a name, where each field lies, what each zero cell holds.
-/
import Derived.Test.YtlehgpnglghlkaaKit
namespace Go.Proofs.Ytlehgpnglghlkaa
set_option maxRecDepth 100000

noncomputable def PZ195 : Array Value := match (Try.prog.info? 195).bind (·.zero) with | some (.agg c) => c | _ => #[]
@[go_sem ↓] theorem zv195 (w : World) : (zeroValue 195).run Try.prog w = .ok (.agg PZ195) w := by kernel_rfl
@[simp, go_sem] theorem PZ195_size : PZ195.size = 353 := by kernel_rfl
@[simp, go_sem] theorem PZ195_0 : PZ195[0]? = some (.slice none 0 0) := by kernel_rfl
@[simp, go_sem] theorem PZ195_1 : PZ195[1]? = some (.nilIface) := by kernel_rfl
@[simp, go_sem] theorem PZ195_2 : PZ195[2]? = some (.slice none 0 0) := by kernel_rfl
@[simp, go_sem] theorem PZ195_3 : PZ195[3]? = some (.int .u32 0) := by kernel_rfl
@[simp, go_sem] theorem PZ195_4 : PZ195[4]? = some (.nilIface) := by kernel_rfl
@[simp, go_sem] theorem PZ195_5 : PZ195[5]? = some (.slice none 0 0) := by kernel_rfl
@[simp, go_sem] theorem PZ195_6 : PZ195[6]? = some (.int .u32 0) := by kernel_rfl
@[simp, go_sem] theorem PZ195_7 : PZ195[7]? = some (.bool false) := by kernel_rfl
@[simp, go_sem] theorem PZ195_8 : PZ195[8]? = some (.bool false) := by kernel_rfl
@[simp, go_sem] theorem PZ195_9 : PZ195[9]? = some (.bool false) := by kernel_rfl
@[simp, go_sem] theorem PZ195_10 : PZ195[10]? = some (.string ⟨#[]⟩) := by kernel_rfl
@[simp, go_sem] theorem PZ195_11 : PZ195[11]? = some (.bool false) := by kernel_rfl
@[simp, go_sem] theorem PZ195_12 : PZ195[12]? = some (.bool false) := by kernel_rfl
@[simp, go_sem] theorem PZ195_13 : PZ195[13]? = some (.pointer none) := by kernel_rfl
@[simp, go_sem] theorem PZ195_14 : PZ195[14]? = some (.pointer none) := by kernel_rfl
@[simp, go_sem] theorem PZ195_15 : PZ195[15]? = some (.pointer none) := by kernel_rfl
@[simp, go_sem] theorem PZ195_16 : PZ195[16]? = some (.slice none 0 0) := by kernel_rfl
@[simp, go_sem] theorem PZ195_17 : PZ195[17]? = some (.pointer none) := by kernel_rfl
@[simp, go_sem] theorem PZ195_18 : PZ195[18]? = some (.string ⟨#[]⟩) := by kernel_rfl
@[simp, go_sem] theorem PZ195_19 : PZ195[19]? = some (.pointer none) := by kernel_rfl
@[simp, go_sem] theorem PZ195_20 : PZ195[20]? = some (.int .i32 0) := by kernel_rfl
@[simp, go_sem] theorem PZ195_21 : PZ195[21]? = some (.int .i32 0) := by kernel_rfl
@[simp, go_sem] theorem PZ195_22 : PZ195[22]? = some (.int .u8 0) := by kernel_rfl
@[simp, go_sem] theorem PZ195_23 : PZ195[23]? = some (.int .u64 0) := by kernel_rfl
@[simp, go_sem] theorem PZ195_24 : PZ195[24]? = some (.int .u64 0) := by kernel_rfl
@[simp, go_sem] theorem PZ195_25 : PZ195[25]? = some (.int .u64 0) := by kernel_rfl
@[simp, go_sem] theorem PZ195_26 : PZ195[26]? = some (.int .u8 0) := by kernel_rfl
@[simp, go_sem] theorem PZ195_27 : PZ195[27]? = some (.int .u8 0) := by kernel_rfl
@[simp, go_sem] theorem PZ195_28 : PZ195[28]? = some (.int .u8 0) := by kernel_rfl
@[simp, go_sem] theorem PZ195_29 : PZ195[29]? = some (.int .u8 0) := by kernel_rfl
@[simp, go_sem] theorem PZ195_30 : PZ195[30]? = some (.int .u8 0) := by kernel_rfl
@[simp, go_sem] theorem PZ195_31 : PZ195[31]? = some (.int .u8 0) := by kernel_rfl
@[simp, go_sem] theorem PZ195_32 : PZ195[32]? = some (.bool false) := by kernel_rfl
@[simp, go_sem] theorem PZ195_33 : PZ195[33]? = some (.bool false) := by kernel_rfl
@[simp, go_sem] theorem PZ195_34 : PZ195[34]? = some (.int .u8 0) := by kernel_rfl
@[simp, go_sem] theorem PZ195_35 : PZ195[35]? = some (.int .u8 0) := by kernel_rfl
@[simp, go_sem] theorem PZ195_36 : PZ195[36]? = some (.int .u8 0) := by kernel_rfl
@[simp, go_sem] theorem PZ195_37 : PZ195[37]? = some (.int .u8 0) := by kernel_rfl
@[simp, go_sem] theorem PZ195_38 : PZ195[38]? = some (.int .u8 0) := by kernel_rfl
@[simp, go_sem] theorem PZ195_39 : PZ195[39]? = some (.bool false) := by kernel_rfl
@[simp, go_sem] theorem PZ195_40 : PZ195[40]? = some (.bool false) := by kernel_rfl
@[simp, go_sem] theorem PZ195_41 : PZ195[41]? = some (.bool false) := by kernel_rfl
@[simp, go_sem] theorem PZ195_42 : PZ195[42]? = some (.bool false) := by kernel_rfl
@[simp, go_sem] theorem PZ195_43 : PZ195[43]? = some (.bool false) := by kernel_rfl
@[simp, go_sem] theorem PZ195_44 : PZ195[44]? = some (.bool false) := by kernel_rfl
@[simp, go_sem] theorem PZ195_45 : PZ195[45]? = some (.bool false) := by kernel_rfl
@[simp, go_sem] theorem PZ195_46 : PZ195[46]? = some (.bool false) := by kernel_rfl
@[simp, go_sem] theorem PZ195_47 : PZ195[47]? = some (.bool false) := by kernel_rfl
@[simp, go_sem] theorem PZ195_48 : PZ195[48]? = some (.bool false) := by kernel_rfl
@[simp, go_sem] theorem PZ195_49 : PZ195[49]? = some (.bool false) := by kernel_rfl
@[simp, go_sem] theorem PZ195_50 : PZ195[50]? = some (.bool false) := by kernel_rfl
@[simp, go_sem] theorem PZ195_51 : PZ195[51]? = some (.nilFunc) := by kernel_rfl
@[simp, go_sem] theorem PZ195_52 : PZ195[52]? = some (.nilFunc) := by kernel_rfl
@[simp, go_sem] theorem PZ195_53 : PZ195[53]? = some (.nilFunc) := by kernel_rfl
@[simp, go_sem] theorem PZ195_54 : PZ195[54]? = some (.nilFunc) := by kernel_rfl
@[simp, go_sem] theorem PZ195_55 : PZ195[55]? = some (.int .i8 0) := by kernel_rfl
@[simp, go_sem] theorem PZ195_56 : PZ195[56]? = some (.map none) := by kernel_rfl
@[simp, go_sem] theorem PZ195_57 : PZ195[57]? = some (.string ⟨#[]⟩) := by kernel_rfl
@[simp, go_sem] theorem PZ195_58 : PZ195[58]? = some (.string ⟨#[]⟩) := by kernel_rfl
@[simp, go_sem] theorem PZ195_59 : PZ195[59]? = some (.string ⟨#[]⟩) := by kernel_rfl
@[simp, go_sem] theorem PZ195_60 : PZ195[60]? = some (.string ⟨#[]⟩) := by kernel_rfl
@[simp, go_sem] theorem PZ195_61 : PZ195[61]? = some (.string ⟨#[]⟩) := by kernel_rfl
@[simp, go_sem] theorem PZ195_62 : PZ195[62]? = some (.string ⟨#[]⟩) := by kernel_rfl
@[simp, go_sem] theorem PZ195_63 : PZ195[63]? = some (.string ⟨#[]⟩) := by kernel_rfl
@[simp, go_sem] theorem PZ195_64 : PZ195[64]? = some (.string ⟨#[]⟩) := by kernel_rfl
@[simp, go_sem] theorem PZ195_65 : PZ195[65]? = some (.int .u8 0) := by kernel_rfl
@[simp, go_sem] theorem PZ195_66 : PZ195[66]? = some (.int .u32 0) := by kernel_rfl
@[simp, go_sem] theorem PZ195_67 : PZ195[67]? = some (.string ⟨#[]⟩) := by kernel_rfl
@[simp, go_sem] theorem PZ195_68 : PZ195[68]? = some (.string ⟨#[]⟩) := by kernel_rfl
@[simp, go_sem] theorem PZ195_69 : PZ195[69]? = some (.string ⟨#[]⟩) := by kernel_rfl
@[simp, go_sem] theorem PZ195_70 : PZ195[70]? = some (.int .i32 0) := by kernel_rfl
@[simp, go_sem] theorem PZ195_71 : PZ195[71]? = some (.int .i32 0) := by kernel_rfl
@[simp, go_sem] theorem PZ195_72 : PZ195[72]? = some (.int .i32 0) := by kernel_rfl
@[simp, go_sem] theorem PZ195_73 : PZ195[73]? = some (.int .i32 0) := by kernel_rfl
@[simp, go_sem] theorem PZ195_74 : PZ195[74]? = some (.bool false) := by kernel_rfl
@[simp, go_sem] theorem PZ195_75 : PZ195[75]? = some (.bool false) := by kernel_rfl
@[simp, go_sem] theorem PZ195_76 : PZ195[76]? = some (.bool false) := by kernel_rfl
@[simp, go_sem] theorem PZ195_77 : PZ195[77]? = some (.pointer none) := by kernel_rfl
@[simp, go_sem] theorem PZ195_78 : PZ195[78]? = some (.pointer none) := by kernel_rfl
@[simp, go_sem] theorem PZ195_79 : PZ195[79]? = some (.int .i32 0) := by kernel_rfl
@[simp, go_sem] theorem PZ195_80 : PZ195[80]? = some (.int .i32 0) := by kernel_rfl
@[simp, go_sem] theorem PZ195_81 : PZ195[81]? = some (.int .i32 0) := by kernel_rfl
@[simp, go_sem] theorem PZ195_82 : PZ195[82]? = some (.int .u8 0) := by kernel_rfl
@[simp, go_sem] theorem PZ195_83 : PZ195[83]? = some (.int .u8 0) := by kernel_rfl
@[simp, go_sem] theorem PZ195_84 : PZ195[84]? = some (.bool false) := by kernel_rfl
@[simp, go_sem] theorem PZ195_85 : PZ195[85]? = some (.bool false) := by kernel_rfl
@[simp, go_sem] theorem PZ195_86 : PZ195[86]? = some (.bool false) := by kernel_rfl
@[simp, go_sem] theorem PZ195_87 : PZ195[87]? = some (.bool false) := by kernel_rfl
@[simp, go_sem] theorem PZ195_88 : PZ195[88]? = some (.bool false) := by kernel_rfl
@[simp, go_sem] theorem PZ195_89 : PZ195[89]? = some (.bool false) := by kernel_rfl
@[simp, go_sem] theorem PZ195_90 : PZ195[90]? = some (.bool false) := by kernel_rfl
@[simp, go_sem] theorem PZ195_91 : PZ195[91]? = some (.bool false) := by kernel_rfl
@[simp, go_sem] theorem PZ195_92 : PZ195[92]? = some (.pointer none) := by kernel_rfl
@[simp, go_sem] theorem PZ195_93 : PZ195[93]? = some (.pointer none) := by kernel_rfl
@[simp, go_sem] theorem PZ195_94 : PZ195[94]? = some (.pointer none) := by kernel_rfl
@[simp, go_sem] theorem PZ195_95 : PZ195[95]? = some (.bool false) := by kernel_rfl
@[simp, go_sem] theorem PZ195_96 : PZ195[96]? = some (.bool false) := by kernel_rfl
@[simp, go_sem] theorem PZ195_97 : PZ195[97]? = some (.pointer none) := by kernel_rfl
@[simp, go_sem] theorem PZ195_98 : PZ195[98]? = some (.bool false) := by kernel_rfl
@[simp, go_sem] theorem PZ195_99 : PZ195[99]? = some (.bool false) := by kernel_rfl
@[simp, go_sem] theorem PZ195_100 : PZ195[100]? = some (.bool false) := by kernel_rfl
@[simp, go_sem] theorem PZ195_101 : PZ195[101]? = some (.bool false) := by kernel_rfl
@[simp, go_sem] theorem PZ195_102 : PZ195[102]? = some (.bool false) := by kernel_rfl
@[simp, go_sem] theorem PZ195_103 : PZ195[103]? = some (.slice none 0 0) := by kernel_rfl
@[simp, go_sem] theorem PZ195_104 : PZ195[104]? = some (.pointer none) := by kernel_rfl
@[simp, go_sem] theorem PZ195_105 : PZ195[105]? = some (.pointer none) := by kernel_rfl
@[simp, go_sem] theorem PZ195_106 : PZ195[106]? = some (.slice none 0 0) := by kernel_rfl
@[simp, go_sem] theorem PZ195_107 : PZ195[107]? = some (.nilFunc) := by kernel_rfl
@[simp, go_sem] theorem PZ195_108 : PZ195[108]? = some (.slice none 0 0) := by kernel_rfl
@[simp, go_sem] theorem PZ195_109 : PZ195[109]? = some (.slice none 0 0) := by kernel_rfl
@[simp, go_sem] theorem PZ195_110 : PZ195[110]? = some (.map none) := by kernel_rfl
@[simp, go_sem] theorem PZ195_111 : PZ195[111]? = some (.map none) := by kernel_rfl
@[simp, go_sem] theorem PZ195_112 : PZ195[112]? = some (.map none) := by kernel_rfl
@[simp, go_sem] theorem PZ195_113 : PZ195[113]? = some (.map none) := by kernel_rfl
@[simp, go_sem] theorem PZ195_114 : PZ195[114]? = some (.map none) := by kernel_rfl
@[simp, go_sem] theorem PZ195_115 : PZ195[115]? = some (.map none) := by kernel_rfl
@[simp, go_sem] theorem PZ195_116 : PZ195[116]? = some (.slice none 0 0) := by kernel_rfl
@[simp, go_sem] theorem PZ195_117 : PZ195[117]? = some (.map none) := by kernel_rfl
@[simp, go_sem] theorem PZ195_118 : PZ195[118]? = some (.slice none 0 0) := by kernel_rfl
@[simp, go_sem] theorem PZ195_119 : PZ195[119]? = some (.int .u8 0) := by kernel_rfl
@[simp, go_sem] theorem PZ195_120 : PZ195[120]? = some (.int .u8 0) := by kernel_rfl
@[simp, go_sem] theorem PZ195_121 : PZ195[121]? = some (.int .u8 0) := by kernel_rfl
@[simp, go_sem] theorem PZ195_122 : PZ195[122]? = some (.int .u8 0) := by kernel_rfl
@[simp, go_sem] theorem PZ195_123 : PZ195[123]? = some (.int .u8 0) := by kernel_rfl
@[simp, go_sem] theorem PZ195_124 : PZ195[124]? = some (.int .u8 0) := by kernel_rfl
@[simp, go_sem] theorem PZ195_125 : PZ195[125]? = some (.int .u8 0) := by kernel_rfl
@[simp, go_sem] theorem PZ195_126 : PZ195[126]? = some (.int .u8 0) := by kernel_rfl
@[simp, go_sem] theorem PZ195_127 : PZ195[127]? = some (.int .u8 0) := by kernel_rfl
@[simp, go_sem] theorem PZ195_128 : PZ195[128]? = some (.int .u8 0) := by kernel_rfl
@[simp, go_sem] theorem PZ195_129 : PZ195[129]? = some (.int .u8 0) := by kernel_rfl
@[simp, go_sem] theorem PZ195_130 : PZ195[130]? = some (.int .u8 0) := by kernel_rfl
@[simp, go_sem] theorem PZ195_131 : PZ195[131]? = some (.int .u8 0) := by kernel_rfl
@[simp, go_sem] theorem PZ195_132 : PZ195[132]? = some (.int .u8 0) := by kernel_rfl
@[simp, go_sem] theorem PZ195_133 : PZ195[133]? = some (.int .u8 0) := by kernel_rfl
@[simp, go_sem] theorem PZ195_134 : PZ195[134]? = some (.int .u8 0) := by kernel_rfl
@[simp, go_sem] theorem PZ195_135 : PZ195[135]? = some (.int .u8 0) := by kernel_rfl
@[simp, go_sem] theorem PZ195_136 : PZ195[136]? = some (.int .u8 0) := by kernel_rfl
@[simp, go_sem] theorem PZ195_137 : PZ195[137]? = some (.int .u8 0) := by kernel_rfl
@[simp, go_sem] theorem PZ195_138 : PZ195[138]? = some (.int .u8 0) := by kernel_rfl
@[simp, go_sem] theorem PZ195_139 : PZ195[139]? = some (.int .u8 0) := by kernel_rfl
@[simp, go_sem] theorem PZ195_140 : PZ195[140]? = some (.int .u8 0) := by kernel_rfl
@[simp, go_sem] theorem PZ195_141 : PZ195[141]? = some (.int .u8 0) := by kernel_rfl
@[simp, go_sem] theorem PZ195_142 : PZ195[142]? = some (.int .u8 0) := by kernel_rfl
@[simp, go_sem] theorem PZ195_143 : PZ195[143]? = some (.int .u8 0) := by kernel_rfl
@[simp, go_sem] theorem PZ195_144 : PZ195[144]? = some (.int .u8 0) := by kernel_rfl
@[simp, go_sem] theorem PZ195_145 : PZ195[145]? = some (.int .u8 0) := by kernel_rfl
@[simp, go_sem] theorem PZ195_146 : PZ195[146]? = some (.int .u8 0) := by kernel_rfl
@[simp, go_sem] theorem PZ195_147 : PZ195[147]? = some (.int .u8 0) := by kernel_rfl
@[simp, go_sem] theorem PZ195_148 : PZ195[148]? = some (.int .u8 0) := by kernel_rfl
@[simp, go_sem] theorem PZ195_149 : PZ195[149]? = some (.int .u8 0) := by kernel_rfl
@[simp, go_sem] theorem PZ195_150 : PZ195[150]? = some (.int .u8 0) := by kernel_rfl
@[simp, go_sem] theorem PZ195_151 : PZ195[151]? = some (.map none) := by kernel_rfl
@[simp, go_sem] theorem PZ195_152 : PZ195[152]? = some (.map none) := by kernel_rfl
@[simp, go_sem] theorem PZ195_153 : PZ195[153]? = some (.map none) := by kernel_rfl
@[simp, go_sem] theorem PZ195_154 : PZ195[154]? = some (.slice none 0 0) := by kernel_rfl
@[simp, go_sem] theorem PZ195_155 : PZ195[155]? = some (.map none) := by kernel_rfl
@[simp, go_sem] theorem PZ195_156 : PZ195[156]? = some (.map none) := by kernel_rfl
@[simp, go_sem] theorem PZ195_157 : PZ195[157]? = some (.map none) := by kernel_rfl
@[simp, go_sem] theorem PZ195_158 : PZ195[158]? = some (.map none) := by kernel_rfl
@[simp, go_sem] theorem PZ195_159 : PZ195[159]? = some (.nilIface) := by kernel_rfl
@[simp, go_sem] theorem PZ195_160 : PZ195[160]? = some (.nilIface) := by kernel_rfl
@[simp, go_sem] theorem PZ195_161 : PZ195[161]? = some (.map none) := by kernel_rfl
@[simp, go_sem] theorem PZ195_162 : PZ195[162]? = some (.map none) := by kernel_rfl
@[simp, go_sem] theorem PZ195_163 : PZ195[163]? = some (.map none) := by kernel_rfl
@[simp, go_sem] theorem PZ195_164 : PZ195[164]? = some (.map none) := by kernel_rfl
@[simp, go_sem] theorem PZ195_165 : PZ195[165]? = some (.map none) := by kernel_rfl
@[simp, go_sem] theorem PZ195_166 : PZ195[166]? = some (.nilIface) := by kernel_rfl
@[simp, go_sem] theorem PZ195_167 : PZ195[167]? = some (.pointer none) := by kernel_rfl
@[simp, go_sem] theorem PZ195_168 : PZ195[168]? = some (.pointer none) := by kernel_rfl
@[simp, go_sem] theorem PZ195_169 : PZ195[169]? = some (.slice none 0 0) := by kernel_rfl
@[simp, go_sem] theorem PZ195_170 : PZ195[170]? = some (.slice none 0 0) := by kernel_rfl
@[simp, go_sem] theorem PZ195_171 : PZ195[171]? = some (.map none) := by kernel_rfl
@[simp, go_sem] theorem PZ195_172 : PZ195[172]? = some (.map none) := by kernel_rfl
@[simp, go_sem] theorem PZ195_173 : PZ195[173]? = some (.map none) := by kernel_rfl
@[simp, go_sem] theorem PZ195_174 : PZ195[174]? = some (.map none) := by kernel_rfl
@[simp, go_sem] theorem PZ195_175 : PZ195[175]? = some (.map none) := by kernel_rfl
@[simp, go_sem] theorem PZ195_176 : PZ195[176]? = some (.map none) := by kernel_rfl
@[simp, go_sem] theorem PZ195_177 : PZ195[177]? = some (.slice none 0 0) := by kernel_rfl
@[simp, go_sem] theorem PZ195_178 : PZ195[178]? = some (.string ⟨#[]⟩) := by kernel_rfl
@[simp, go_sem] theorem PZ195_179 : PZ195[179]? = some (.nilIface) := by kernel_rfl
@[simp, go_sem] theorem PZ195_180 : PZ195[180]? = some (.nilIface) := by kernel_rfl
@[simp, go_sem] theorem PZ195_181 : PZ195[181]? = some (.nilIface) := by kernel_rfl
@[simp, go_sem] theorem PZ195_182 : PZ195[182]? = some (.nilIface) := by kernel_rfl
@[simp, go_sem] theorem PZ195_183 : PZ195[183]? = some (.nilIface) := by kernel_rfl
@[simp, go_sem] theorem PZ195_184 : PZ195[184]? = some (.nilIface) := by kernel_rfl
@[simp, go_sem] theorem PZ195_185 : PZ195[185]? = some (.nilIface) := by kernel_rfl
@[simp, go_sem] theorem PZ195_186 : PZ195[186]? = some (.nilIface) := by kernel_rfl
@[simp, go_sem] theorem PZ195_187 : PZ195[187]? = some (.pointer none) := by kernel_rfl
@[simp, go_sem] theorem PZ195_188 : PZ195[188]? = some (.nilIface) := by kernel_rfl
@[simp, go_sem] theorem PZ195_189 : PZ195[189]? = some (.int .i32 0) := by kernel_rfl
@[simp, go_sem] theorem PZ195_190 : PZ195[190]? = some (.map none) := by kernel_rfl
@[simp, go_sem] theorem PZ195_191 : PZ195[191]? = some (.nilIface) := by kernel_rfl
@[simp, go_sem] theorem PZ195_192 : PZ195[192]? = some (.nilIface) := by kernel_rfl
@[simp, go_sem] theorem PZ195_193 : PZ195[193]? = some (.int .i32 0) := by kernel_rfl
@[simp, go_sem] theorem PZ195_194 : PZ195[194]? = some (.bool false) := by kernel_rfl
@[simp, go_sem] theorem PZ195_195 : PZ195[195]? = some (.bool false) := by kernel_rfl
@[simp, go_sem] theorem PZ195_196 : PZ195[196]? = some (.slice none 0 0) := by kernel_rfl
@[simp, go_sem] theorem PZ195_197 : PZ195[197]? = some (.map none) := by kernel_rfl
@[simp, go_sem] theorem PZ195_198 : PZ195[198]? = some (.slice none 0 0) := by kernel_rfl
@[simp, go_sem] theorem PZ195_199 : PZ195[199]? = some (.slice none 0 0) := by kernel_rfl
@[simp, go_sem] theorem PZ195_200 : PZ195[200]? = some (.slice none 0 0) := by kernel_rfl
@[simp, go_sem] theorem PZ195_201 : PZ195[201]? = some (.slice none 0 0) := by kernel_rfl
@[simp, go_sem] theorem PZ195_202 : PZ195[202]? = some (.slice none 0 0) := by kernel_rfl
@[simp, go_sem] theorem PZ195_203 : PZ195[203]? = some (.slice none 0 0) := by kernel_rfl
@[simp, go_sem] theorem PZ195_204 : PZ195[204]? = some (.string ⟨#[]⟩) := by kernel_rfl
@[simp, go_sem] theorem PZ195_205 : PZ195[205]? = some (.int .u32 0) := by kernel_rfl
@[simp, go_sem] theorem PZ195_206 : PZ195[206]? = some (.nilFunc) := by kernel_rfl
@[simp, go_sem] theorem PZ195_207 : PZ195[207]? = some (.nilFunc) := by kernel_rfl
@[simp, go_sem] theorem PZ195_208 : PZ195[208]? = some (.nilFunc) := by kernel_rfl
@[simp, go_sem] theorem PZ195_209 : PZ195[209]? = some (.nilFunc) := by kernel_rfl
@[simp, go_sem] theorem PZ195_210 : PZ195[210]? = some (.int .i8 0) := by kernel_rfl
@[simp, go_sem] theorem PZ195_211 : PZ195[211]? = some (.map none) := by kernel_rfl
@[simp, go_sem] theorem PZ195_212 : PZ195[212]? = some (.string ⟨#[]⟩) := by kernel_rfl
@[simp, go_sem] theorem PZ195_213 : PZ195[213]? = some (.string ⟨#[]⟩) := by kernel_rfl
@[simp, go_sem] theorem PZ195_214 : PZ195[214]? = some (.string ⟨#[]⟩) := by kernel_rfl
@[simp, go_sem] theorem PZ195_215 : PZ195[215]? = some (.string ⟨#[]⟩) := by kernel_rfl
@[simp, go_sem] theorem PZ195_216 : PZ195[216]? = some (.string ⟨#[]⟩) := by kernel_rfl
@[simp, go_sem] theorem PZ195_217 : PZ195[217]? = some (.string ⟨#[]⟩) := by kernel_rfl
@[simp, go_sem] theorem PZ195_218 : PZ195[218]? = some (.string ⟨#[]⟩) := by kernel_rfl
@[simp, go_sem] theorem PZ195_219 : PZ195[219]? = some (.string ⟨#[]⟩) := by kernel_rfl
@[simp, go_sem] theorem PZ195_220 : PZ195[220]? = some (.int .u8 0) := by kernel_rfl
@[simp, go_sem] theorem PZ195_221 : PZ195[221]? = some (.int .u32 0) := by kernel_rfl
@[simp, go_sem] theorem PZ195_222 : PZ195[222]? = some (.string ⟨#[]⟩) := by kernel_rfl
@[simp, go_sem] theorem PZ195_223 : PZ195[223]? = some (.int .i32 0) := by kernel_rfl
@[simp, go_sem] theorem PZ195_224 : PZ195[224]? = some (.int .i32 0) := by kernel_rfl
@[simp, go_sem] theorem PZ195_225 : PZ195[225]? = some (.string ⟨#[]⟩) := by kernel_rfl
@[simp, go_sem] theorem PZ195_226 : PZ195[226]? = some (.int .i32 0) := by kernel_rfl
@[simp, go_sem] theorem PZ195_227 : PZ195[227]? = some (.int .i32 0) := by kernel_rfl
@[simp, go_sem] theorem PZ195_228 : PZ195[228]? = some (.string ⟨#[]⟩) := by kernel_rfl
@[simp, go_sem] theorem PZ195_229 : PZ195[229]? = some (.int .i32 0) := by kernel_rfl
@[simp, go_sem] theorem PZ195_230 : PZ195[230]? = some (.int .i32 0) := by kernel_rfl
@[simp, go_sem] theorem PZ195_231 : PZ195[231]? = some (.string ⟨#[]⟩) := by kernel_rfl
@[simp, go_sem] theorem PZ195_232 : PZ195[232]? = some (.int .i32 0) := by kernel_rfl
@[simp, go_sem] theorem PZ195_233 : PZ195[233]? = some (.int .i32 0) := by kernel_rfl
@[simp, go_sem] theorem PZ195_234 : PZ195[234]? = some (.string ⟨#[]⟩) := by kernel_rfl
@[simp, go_sem] theorem PZ195_235 : PZ195[235]? = some (.int .i32 0) := by kernel_rfl
@[simp, go_sem] theorem PZ195_236 : PZ195[236]? = some (.int .i32 0) := by kernel_rfl
@[simp, go_sem] theorem PZ195_237 : PZ195[237]? = some (.string ⟨#[]⟩) := by kernel_rfl
@[simp, go_sem] theorem PZ195_238 : PZ195[238]? = some (.slice none 0 0) := by kernel_rfl
@[simp, go_sem] theorem PZ195_239 : PZ195[239]? = some (.string ⟨#[]⟩) := by kernel_rfl
@[simp, go_sem] theorem PZ195_240 : PZ195[240]? = some (.string ⟨#[]⟩) := by kernel_rfl
@[simp, go_sem] theorem PZ195_241 : PZ195[241]? = some (.string ⟨#[]⟩) := by kernel_rfl
@[simp, go_sem] theorem PZ195_242 : PZ195[242]? = some (.string ⟨#[]⟩) := by kernel_rfl
@[simp, go_sem] theorem PZ195_243 : PZ195[243]? = some (.string ⟨#[]⟩) := by kernel_rfl
@[simp, go_sem] theorem PZ195_244 : PZ195[244]? = some (.int .i32 0) := by kernel_rfl
@[simp, go_sem] theorem PZ195_245 : PZ195[245]? = some (.int .i32 0) := by kernel_rfl
@[simp, go_sem] theorem PZ195_246 : PZ195[246]? = some (.int .i32 0) := by kernel_rfl
@[simp, go_sem] theorem PZ195_247 : PZ195[247]? = some (.int .i32 0) := by kernel_rfl
@[simp, go_sem] theorem PZ195_248 : PZ195[248]? = some (.bool false) := by kernel_rfl
@[simp, go_sem] theorem PZ195_249 : PZ195[249]? = some (.bool false) := by kernel_rfl
@[simp, go_sem] theorem PZ195_250 : PZ195[250]? = some (.bool false) := by kernel_rfl
@[simp, go_sem] theorem PZ195_251 : PZ195[251]? = some (.int .i64 0) := by kernel_rfl
@[simp, go_sem] theorem PZ195_252 : PZ195[252]? = some (.float .f64 0) := by kernel_rfl
@[simp, go_sem] theorem PZ195_253 : PZ195[253]? = some (.int .i64 0) := by kernel_rfl
@[simp, go_sem] theorem PZ195_254 : PZ195[254]? = some (.int .i64 0) := by kernel_rfl
@[simp, go_sem] theorem PZ195_255 : PZ195[255]? = some (.int .i64 0) := by kernel_rfl
@[simp, go_sem] theorem PZ195_256 : PZ195[256]? = some (.int .i64 0) := by kernel_rfl
@[simp, go_sem] theorem PZ195_257 : PZ195[257]? = some (.int .i64 0) := by kernel_rfl
@[simp, go_sem] theorem PZ195_258 : PZ195[258]? = some (.int .i32 0) := by kernel_rfl
@[simp, go_sem] theorem PZ195_259 : PZ195[259]? = some (.int .i32 0) := by kernel_rfl
@[simp, go_sem] theorem PZ195_260 : PZ195[260]? = some (.int .i32 0) := by kernel_rfl
@[simp, go_sem] theorem PZ195_261 : PZ195[261]? = some (.int .i32 0) := by kernel_rfl
@[simp, go_sem] theorem PZ195_262 : PZ195[262]? = some (.int .i32 0) := by kernel_rfl
@[simp, go_sem] theorem PZ195_263 : PZ195[263]? = some (.int .i32 0) := by kernel_rfl
@[simp, go_sem] theorem PZ195_264 : PZ195[264]? = some (.int .i32 0) := by kernel_rfl
@[simp, go_sem] theorem PZ195_265 : PZ195[265]? = some (.int .i32 0) := by kernel_rfl
@[simp, go_sem] theorem PZ195_266 : PZ195[266]? = some (.int .i32 0) := by kernel_rfl
@[simp, go_sem] theorem PZ195_267 : PZ195[267]? = some (.int .i32 0) := by kernel_rfl
@[simp, go_sem] theorem PZ195_268 : PZ195[268]? = some (.int .i32 0) := by kernel_rfl
@[simp, go_sem] theorem PZ195_269 : PZ195[269]? = some (.int .u8 0) := by kernel_rfl
@[simp, go_sem] theorem PZ195_270 : PZ195[270]? = some (.int .u8 0) := by kernel_rfl
@[simp, go_sem] theorem PZ195_271 : PZ195[271]? = some (.int .u8 0) := by kernel_rfl
@[simp, go_sem] theorem PZ195_272 : PZ195[272]? = some (.int .u8 0) := by kernel_rfl
@[simp, go_sem] theorem PZ195_273 : PZ195[273]? = some (.int .u8 0) := by kernel_rfl
@[simp, go_sem] theorem PZ195_274 : PZ195[274]? = some (.int .u8 0) := by kernel_rfl
@[simp, go_sem] theorem PZ195_275 : PZ195[275]? = some (.int .u8 0) := by kernel_rfl
@[simp, go_sem] theorem PZ195_276 : PZ195[276]? = some (.int .u8 0) := by kernel_rfl
@[simp, go_sem] theorem PZ195_277 : PZ195[277]? = some (.bool false) := by kernel_rfl
@[simp, go_sem] theorem PZ195_278 : PZ195[278]? = some (.bool false) := by kernel_rfl
@[simp, go_sem] theorem PZ195_279 : PZ195[279]? = some (.bool false) := by kernel_rfl
@[simp, go_sem] theorem PZ195_280 : PZ195[280]? = some (.int .u8 0) := by kernel_rfl
@[simp, go_sem] theorem PZ195_281 : PZ195[281]? = some (.bool false) := by kernel_rfl
@[simp, go_sem] theorem PZ195_282 : PZ195[282]? = some (.bool false) := by kernel_rfl
@[simp, go_sem] theorem PZ195_283 : PZ195[283]? = some (.bool false) := by kernel_rfl
@[simp, go_sem] theorem PZ195_284 : PZ195[284]? = some (.bool false) := by kernel_rfl
@[simp, go_sem] theorem PZ195_285 : PZ195[285]? = some (.bool false) := by kernel_rfl
@[simp, go_sem] theorem PZ195_286 : PZ195[286]? = some (.int .i64 0) := by kernel_rfl
@[simp, go_sem] theorem PZ195_287 : PZ195[287]? = some (.int .i64 0) := by kernel_rfl
@[simp, go_sem] theorem PZ195_288 : PZ195[288]? = some (.int .i64 0) := by kernel_rfl
@[simp, go_sem] theorem PZ195_289 : PZ195[289]? = some (.int .i64 0) := by kernel_rfl
@[simp, go_sem] theorem PZ195_290 : PZ195[290]? = some (.int .i64 0) := by kernel_rfl
@[simp, go_sem] theorem PZ195_291 : PZ195[291]? = some (.int .i64 0) := by kernel_rfl
@[simp, go_sem] theorem PZ195_292 : PZ195[292]? = some (.int .u32 0) := by kernel_rfl
@[simp, go_sem] theorem PZ195_293 : PZ195[293]? = some (.int .u32 0) := by kernel_rfl
@[simp, go_sem] theorem PZ195_294 : PZ195[294]? = some (.int .u32 0) := by kernel_rfl
@[simp, go_sem] theorem PZ195_295 : PZ195[295]? = some (.int .u32 0) := by kernel_rfl
@[simp, go_sem] theorem PZ195_296 : PZ195[296]? = some (.int .u32 0) := by kernel_rfl
@[simp, go_sem] theorem PZ195_297 : PZ195[297]? = some (.int .u32 0) := by kernel_rfl
@[simp, go_sem] theorem PZ195_298 : PZ195[298]? = some (.int .u32 0) := by kernel_rfl
@[simp, go_sem] theorem PZ195_299 : PZ195[299]? = some (.int .u32 0) := by kernel_rfl
@[simp, go_sem] theorem PZ195_300 : PZ195[300]? = some (.int .u32 0) := by kernel_rfl
@[simp, go_sem] theorem PZ195_301 : PZ195[301]? = some (.int .u32 0) := by kernel_rfl
@[simp, go_sem] theorem PZ195_302 : PZ195[302]? = some (.int .u32 0) := by kernel_rfl
@[simp, go_sem] theorem PZ195_303 : PZ195[303]? = some (.int .u32 0) := by kernel_rfl
@[simp, go_sem] theorem PZ195_304 : PZ195[304]? = some (.int .u32 0) := by kernel_rfl
@[simp, go_sem] theorem PZ195_305 : PZ195[305]? = some (.int .u32 0) := by kernel_rfl
@[simp, go_sem] theorem PZ195_306 : PZ195[306]? = some (.int .u32 0) := by kernel_rfl
@[simp, go_sem] theorem PZ195_307 : PZ195[307]? = some (.int .u32 0) := by kernel_rfl
@[simp, go_sem] theorem PZ195_308 : PZ195[308]? = some (.map none) := by kernel_rfl
@[simp, go_sem] theorem PZ195_309 : PZ195[309]? = some (.map none) := by kernel_rfl
@[simp, go_sem] theorem PZ195_310 : PZ195[310]? = some (.int .u32 0) := by kernel_rfl
@[simp, go_sem] theorem PZ195_311 : PZ195[311]? = some (.int .u32 0) := by kernel_rfl
@[simp, go_sem] theorem PZ195_312 : PZ195[312]? = some (.int .u32 0) := by kernel_rfl
@[simp, go_sem] theorem PZ195_313 : PZ195[313]? = some (.int .u32 0) := by kernel_rfl
@[simp, go_sem] theorem PZ195_314 : PZ195[314]? = some (.int .i32 0) := by kernel_rfl
@[simp, go_sem] theorem PZ195_315 : PZ195[315]? = some (.int .i32 0) := by kernel_rfl
@[simp, go_sem] theorem PZ195_316 : PZ195[316]? = some (.int .i32 0) := by kernel_rfl
@[simp, go_sem] theorem PZ195_317 : PZ195[317]? = some (.int .i32 0) := by kernel_rfl
@[simp, go_sem] theorem PZ195_318 : PZ195[318]? = some (.int .i32 0) := by kernel_rfl
@[simp, go_sem] theorem PZ195_319 : PZ195[319]? = some (.int .i32 0) := by kernel_rfl
@[simp, go_sem] theorem PZ195_320 : PZ195[320]? = some (.int .i32 0) := by kernel_rfl
@[simp, go_sem] theorem PZ195_321 : PZ195[321]? = some (.int .i32 0) := by kernel_rfl
@[simp, go_sem] theorem PZ195_322 : PZ195[322]? = some (.int .i32 0) := by kernel_rfl
@[simp, go_sem] theorem PZ195_323 : PZ195[323]? = some (.int .i32 0) := by kernel_rfl
@[simp, go_sem] theorem PZ195_324 : PZ195[324]? = some (.int .i32 0) := by kernel_rfl
@[simp, go_sem] theorem PZ195_325 : PZ195[325]? = some (.int .i32 0) := by kernel_rfl
@[simp, go_sem] theorem PZ195_326 : PZ195[326]? = some (.int .i32 0) := by kernel_rfl
@[simp, go_sem] theorem PZ195_327 : PZ195[327]? = some (.int .i32 0) := by kernel_rfl
@[simp, go_sem] theorem PZ195_328 : PZ195[328]? = some (.int .i32 0) := by kernel_rfl
@[simp, go_sem] theorem PZ195_329 : PZ195[329]? = some (.int .i32 0) := by kernel_rfl
@[simp, go_sem] theorem PZ195_330 : PZ195[330]? = some (.int .i32 0) := by kernel_rfl
@[simp, go_sem] theorem PZ195_331 : PZ195[331]? = some (.bool false) := by kernel_rfl
@[simp, go_sem] theorem PZ195_332 : PZ195[332]? = some (.bool false) := by kernel_rfl
@[simp, go_sem] theorem PZ195_333 : PZ195[333]? = some (.bool false) := by kernel_rfl
@[simp, go_sem] theorem PZ195_334 : PZ195[334]? = some (.bool false) := by kernel_rfl
@[simp, go_sem] theorem PZ195_335 : PZ195[335]? = some (.bool false) := by kernel_rfl
@[simp, go_sem] theorem PZ195_336 : PZ195[336]? = some (.bool false) := by kernel_rfl
@[simp, go_sem] theorem PZ195_337 : PZ195[337]? = some (.bool false) := by kernel_rfl
@[simp, go_sem] theorem PZ195_338 : PZ195[338]? = some (.bool false) := by kernel_rfl
@[simp, go_sem] theorem PZ195_339 : PZ195[339]? = some (.int .i64 0) := by kernel_rfl
@[simp, go_sem] theorem PZ195_340 : PZ195[340]? = some (.int .i32 0) := by kernel_rfl
@[simp, go_sem] theorem PZ195_341 : PZ195[341]? = some (.bool false) := by kernel_rfl
@[simp, go_sem] theorem PZ195_342 : PZ195[342]? = some (.bool false) := by kernel_rfl
@[simp, go_sem] theorem PZ195_343 : PZ195[343]? = some (.bool false) := by kernel_rfl
@[simp, go_sem] theorem PZ195_344 : PZ195[344]? = some (.bool false) := by kernel_rfl
@[simp, go_sem] theorem PZ195_345 : PZ195[345]? = some (.bool false) := by kernel_rfl
@[simp, go_sem] theorem PZ195_346 : PZ195[346]? = some (.bool false) := by kernel_rfl
@[simp, go_sem] theorem PZ195_347 : PZ195[347]? = some (.bool false) := by kernel_rfl
@[simp, go_sem] theorem PZ195_348 : PZ195[348]? = some (.bool false) := by kernel_rfl
@[simp, go_sem] theorem PZ195_349 : PZ195[349]? = some (.bool false) := by kernel_rfl
@[simp, go_sem] theorem PZ195_350 : PZ195[350]? = some (.bool false) := by kernel_rfl
@[simp, go_sem] theorem PZ195_351 : PZ195[351]? = some (.bool false) := by kernel_rfl
@[simp, go_sem] theorem PZ195_352 : PZ195[352]? = some (.bool false) := by kernel_rfl
@[go_sem ↓] theorem fa195_0 (b o : Nat) (w : World) : (Instr.fieldAt 195 (.pointer (some ⟨b, o, none⟩)) 0).run Try.prog w = .ok (.pointer (some ⟨b, o, none⟩)) w := by kernel_rfl
@[go_sem ↓] theorem fa195_1 (b o : Nat) (w : World) : (Instr.fieldAt 195 (.pointer (some ⟨b, o, none⟩)) 1).run Try.prog w = .ok (.pointer (some ⟨b, o + 51, none⟩)) w := by kernel_rfl
@[go_sem ↓] theorem fa195_2 (b o : Nat) (w : World) : (Instr.fieldAt 195 (.pointer (some ⟨b, o, none⟩)) 2).run Try.prog w = .ok (.pointer (some ⟨b, o + 57, none⟩)) w := by kernel_rfl
@[go_sem ↓] theorem fa195_3 (b o : Nat) (w : World) : (Instr.fieldAt 195 (.pointer (some ⟨b, o, none⟩)) 3).run Try.prog w = .ok (.pointer (some ⟨b, o + 67, none⟩)) w := by kernel_rfl
@[go_sem ↓] theorem fa195_4 (b o : Nat) (w : World) : (Instr.fieldAt 195 (.pointer (some ⟨b, o, none⟩)) 4).run Try.prog w = .ok (.pointer (some ⟨b, o + 77, none⟩)) w := by kernel_rfl
@[go_sem ↓] theorem fa195_5 (b o : Nat) (w : World) : (Instr.fieldAt 195 (.pointer (some ⟨b, o, none⟩)) 5).run Try.prog w = .ok (.pointer (some ⟨b, o + 92, none⟩)) w := by kernel_rfl
@[go_sem ↓] theorem fa195_6 (b o : Nat) (w : World) : (Instr.fieldAt 195 (.pointer (some ⟨b, o, none⟩)) 6).run Try.prog w = .ok (.pointer (some ⟨b, o + 103, none⟩)) w := by kernel_rfl
@[go_sem ↓] theorem fa195_7 (b o : Nat) (w : World) : (Instr.fieldAt 195 (.pointer (some ⟨b, o, none⟩)) 7).run Try.prog w = .ok (.pointer (some ⟨b, o + 104, none⟩)) w := by kernel_rfl
@[go_sem ↓] theorem fa195_8 (b o : Nat) (w : World) : (Instr.fieldAt 195 (.pointer (some ⟨b, o, none⟩)) 8).run Try.prog w = .ok (.pointer (some ⟨b, o + 105, none⟩)) w := by kernel_rfl
@[go_sem ↓] theorem fa195_9 (b o : Nat) (w : World) : (Instr.fieldAt 195 (.pointer (some ⟨b, o, none⟩)) 9).run Try.prog w = .ok (.pointer (some ⟨b, o + 106, none⟩)) w := by kernel_rfl
@[go_sem ↓] theorem fa195_10 (b o : Nat) (w : World) : (Instr.fieldAt 195 (.pointer (some ⟨b, o, none⟩)) 10).run Try.prog w = .ok (.pointer (some ⟨b, o + 107, none⟩)) w := by kernel_rfl
@[go_sem ↓] theorem fa195_11 (b o : Nat) (w : World) : (Instr.fieldAt 195 (.pointer (some ⟨b, o, none⟩)) 11).run Try.prog w = .ok (.pointer (some ⟨b, o + 108, none⟩)) w := by kernel_rfl
@[go_sem ↓] theorem fa195_12 (b o : Nat) (w : World) : (Instr.fieldAt 195 (.pointer (some ⟨b, o, none⟩)) 12).run Try.prog w = .ok (.pointer (some ⟨b, o + 109, none⟩)) w := by kernel_rfl
@[go_sem ↓] theorem fa195_13 (b o : Nat) (w : World) : (Instr.fieldAt 195 (.pointer (some ⟨b, o, none⟩)) 13).run Try.prog w = .ok (.pointer (some ⟨b, o + 110, none⟩)) w := by kernel_rfl
@[go_sem ↓] theorem fa195_14 (b o : Nat) (w : World) : (Instr.fieldAt 195 (.pointer (some ⟨b, o, none⟩)) 14).run Try.prog w = .ok (.pointer (some ⟨b, o + 111, none⟩)) w := by kernel_rfl
@[go_sem ↓] theorem fa195_15 (b o : Nat) (w : World) : (Instr.fieldAt 195 (.pointer (some ⟨b, o, none⟩)) 15).run Try.prog w = .ok (.pointer (some ⟨b, o + 112, none⟩)) w := by kernel_rfl
@[go_sem ↓] theorem fa195_16 (b o : Nat) (w : World) : (Instr.fieldAt 195 (.pointer (some ⟨b, o, none⟩)) 16).run Try.prog w = .ok (.pointer (some ⟨b, o + 113, none⟩)) w := by kernel_rfl
@[go_sem ↓] theorem fa195_17 (b o : Nat) (w : World) : (Instr.fieldAt 195 (.pointer (some ⟨b, o, none⟩)) 17).run Try.prog w = .ok (.pointer (some ⟨b, o + 114, none⟩)) w := by kernel_rfl
@[go_sem ↓] theorem fa195_18 (b o : Nat) (w : World) : (Instr.fieldAt 195 (.pointer (some ⟨b, o, none⟩)) 18).run Try.prog w = .ok (.pointer (some ⟨b, o + 115, none⟩)) w := by kernel_rfl
@[go_sem ↓] theorem fa195_19 (b o : Nat) (w : World) : (Instr.fieldAt 195 (.pointer (some ⟨b, o, none⟩)) 19).run Try.prog w = .ok (.pointer (some ⟨b, o + 116, none⟩)) w := by kernel_rfl
@[go_sem ↓] theorem fa195_20 (b o : Nat) (w : World) : (Instr.fieldAt 195 (.pointer (some ⟨b, o, none⟩)) 20).run Try.prog w = .ok (.pointer (some ⟨b, o + 117, none⟩)) w := by kernel_rfl
@[go_sem ↓] theorem fa195_21 (b o : Nat) (w : World) : (Instr.fieldAt 195 (.pointer (some ⟨b, o, none⟩)) 21).run Try.prog w = .ok (.pointer (some ⟨b, o + 118, none⟩)) w := by kernel_rfl
@[go_sem ↓] theorem fa195_22 (b o : Nat) (w : World) : (Instr.fieldAt 195 (.pointer (some ⟨b, o, none⟩)) 22).run Try.prog w = .ok (.pointer (some ⟨b, o + 151, none⟩)) w := by kernel_rfl
@[go_sem ↓] theorem fa195_23 (b o : Nat) (w : World) : (Instr.fieldAt 195 (.pointer (some ⟨b, o, none⟩)) 23).run Try.prog w = .ok (.pointer (some ⟨b, o + 152, none⟩)) w := by kernel_rfl
@[go_sem ↓] theorem fa195_24 (b o : Nat) (w : World) : (Instr.fieldAt 195 (.pointer (some ⟨b, o, none⟩)) 24).run Try.prog w = .ok (.pointer (some ⟨b, o + 153, none⟩)) w := by kernel_rfl
@[go_sem ↓] theorem fa195_25 (b o : Nat) (w : World) : (Instr.fieldAt 195 (.pointer (some ⟨b, o, none⟩)) 25).run Try.prog w = .ok (.pointer (some ⟨b, o + 154, none⟩)) w := by kernel_rfl
@[go_sem ↓] theorem fa195_26 (b o : Nat) (w : World) : (Instr.fieldAt 195 (.pointer (some ⟨b, o, none⟩)) 26).run Try.prog w = .ok (.pointer (some ⟨b, o + 155, none⟩)) w := by kernel_rfl
@[go_sem ↓] theorem fa195_27 (b o : Nat) (w : World) : (Instr.fieldAt 195 (.pointer (some ⟨b, o, none⟩)) 27).run Try.prog w = .ok (.pointer (some ⟨b, o + 156, none⟩)) w := by kernel_rfl
@[go_sem ↓] theorem fa195_28 (b o : Nat) (w : World) : (Instr.fieldAt 195 (.pointer (some ⟨b, o, none⟩)) 28).run Try.prog w = .ok (.pointer (some ⟨b, o + 157, none⟩)) w := by kernel_rfl
@[go_sem ↓] theorem fa195_29 (b o : Nat) (w : World) : (Instr.fieldAt 195 (.pointer (some ⟨b, o, none⟩)) 29).run Try.prog w = .ok (.pointer (some ⟨b, o + 158, none⟩)) w := by kernel_rfl
@[go_sem ↓] theorem fa195_30 (b o : Nat) (w : World) : (Instr.fieldAt 195 (.pointer (some ⟨b, o, none⟩)) 30).run Try.prog w = .ok (.pointer (some ⟨b, o + 159, none⟩)) w := by kernel_rfl
@[go_sem ↓] theorem fa195_31 (b o : Nat) (w : World) : (Instr.fieldAt 195 (.pointer (some ⟨b, o, none⟩)) 31).run Try.prog w = .ok (.pointer (some ⟨b, o + 160, none⟩)) w := by kernel_rfl
@[go_sem ↓] theorem fa195_32 (b o : Nat) (w : World) : (Instr.fieldAt 195 (.pointer (some ⟨b, o, none⟩)) 32).run Try.prog w = .ok (.pointer (some ⟨b, o + 161, none⟩)) w := by kernel_rfl
@[go_sem ↓] theorem fa195_33 (b o : Nat) (w : World) : (Instr.fieldAt 195 (.pointer (some ⟨b, o, none⟩)) 33).run Try.prog w = .ok (.pointer (some ⟨b, o + 162, none⟩)) w := by kernel_rfl
@[go_sem ↓] theorem fa195_34 (b o : Nat) (w : World) : (Instr.fieldAt 195 (.pointer (some ⟨b, o, none⟩)) 34).run Try.prog w = .ok (.pointer (some ⟨b, o + 163, none⟩)) w := by kernel_rfl
@[go_sem ↓] theorem fa195_35 (b o : Nat) (w : World) : (Instr.fieldAt 195 (.pointer (some ⟨b, o, none⟩)) 35).run Try.prog w = .ok (.pointer (some ⟨b, o + 164, none⟩)) w := by kernel_rfl
@[go_sem ↓] theorem fa195_36 (b o : Nat) (w : World) : (Instr.fieldAt 195 (.pointer (some ⟨b, o, none⟩)) 36).run Try.prog w = .ok (.pointer (some ⟨b, o + 165, none⟩)) w := by kernel_rfl
@[go_sem ↓] theorem fa195_37 (b o : Nat) (w : World) : (Instr.fieldAt 195 (.pointer (some ⟨b, o, none⟩)) 37).run Try.prog w = .ok (.pointer (some ⟨b, o + 166, none⟩)) w := by kernel_rfl
@[go_sem ↓] theorem fa195_38 (b o : Nat) (w : World) : (Instr.fieldAt 195 (.pointer (some ⟨b, o, none⟩)) 38).run Try.prog w = .ok (.pointer (some ⟨b, o + 167, none⟩)) w := by kernel_rfl
@[go_sem ↓] theorem fa195_39 (b o : Nat) (w : World) : (Instr.fieldAt 195 (.pointer (some ⟨b, o, none⟩)) 39).run Try.prog w = .ok (.pointer (some ⟨b, o + 168, none⟩)) w := by kernel_rfl
@[go_sem ↓] theorem fa195_40 (b o : Nat) (w : World) : (Instr.fieldAt 195 (.pointer (some ⟨b, o, none⟩)) 40).run Try.prog w = .ok (.pointer (some ⟨b, o + 169, none⟩)) w := by kernel_rfl
@[go_sem ↓] theorem fa195_41 (b o : Nat) (w : World) : (Instr.fieldAt 195 (.pointer (some ⟨b, o, none⟩)) 41).run Try.prog w = .ok (.pointer (some ⟨b, o + 170, none⟩)) w := by kernel_rfl
@[go_sem ↓] theorem fa195_42 (b o : Nat) (w : World) : (Instr.fieldAt 195 (.pointer (some ⟨b, o, none⟩)) 42).run Try.prog w = .ok (.pointer (some ⟨b, o + 171, none⟩)) w := by kernel_rfl
@[go_sem ↓] theorem fa195_43 (b o : Nat) (w : World) : (Instr.fieldAt 195 (.pointer (some ⟨b, o, none⟩)) 43).run Try.prog w = .ok (.pointer (some ⟨b, o + 172, none⟩)) w := by kernel_rfl
@[go_sem ↓] theorem fa195_44 (b o : Nat) (w : World) : (Instr.fieldAt 195 (.pointer (some ⟨b, o, none⟩)) 44).run Try.prog w = .ok (.pointer (some ⟨b, o + 173, none⟩)) w := by kernel_rfl
@[go_sem ↓] theorem fa195_45 (b o : Nat) (w : World) : (Instr.fieldAt 195 (.pointer (some ⟨b, o, none⟩)) 45).run Try.prog w = .ok (.pointer (some ⟨b, o + 174, none⟩)) w := by kernel_rfl
@[go_sem ↓] theorem fa195_46 (b o : Nat) (w : World) : (Instr.fieldAt 195 (.pointer (some ⟨b, o, none⟩)) 46).run Try.prog w = .ok (.pointer (some ⟨b, o + 175, none⟩)) w := by kernel_rfl
@[go_sem ↓] theorem fa195_47 (b o : Nat) (w : World) : (Instr.fieldAt 195 (.pointer (some ⟨b, o, none⟩)) 47).run Try.prog w = .ok (.pointer (some ⟨b, o + 176, none⟩)) w := by kernel_rfl
@[go_sem ↓] theorem fa195_48 (b o : Nat) (w : World) : (Instr.fieldAt 195 (.pointer (some ⟨b, o, none⟩)) 48).run Try.prog w = .ok (.pointer (some ⟨b, o + 177, none⟩)) w := by kernel_rfl
@[go_sem ↓] theorem fa195_49 (b o : Nat) (w : World) : (Instr.fieldAt 195 (.pointer (some ⟨b, o, none⟩)) 49).run Try.prog w = .ok (.pointer (some ⟨b, o + 178, none⟩)) w := by kernel_rfl
@[go_sem ↓] theorem fa195_50 (b o : Nat) (w : World) : (Instr.fieldAt 195 (.pointer (some ⟨b, o, none⟩)) 50).run Try.prog w = .ok (.pointer (some ⟨b, o + 179, none⟩)) w := by kernel_rfl
@[go_sem ↓] theorem fa195_51 (b o : Nat) (w : World) : (Instr.fieldAt 195 (.pointer (some ⟨b, o, none⟩)) 51).run Try.prog w = .ok (.pointer (some ⟨b, o + 180, none⟩)) w := by kernel_rfl
@[go_sem ↓] theorem fa195_52 (b o : Nat) (w : World) : (Instr.fieldAt 195 (.pointer (some ⟨b, o, none⟩)) 52).run Try.prog w = .ok (.pointer (some ⟨b, o + 181, none⟩)) w := by kernel_rfl
@[go_sem ↓] theorem fa195_53 (b o : Nat) (w : World) : (Instr.fieldAt 195 (.pointer (some ⟨b, o, none⟩)) 53).run Try.prog w = .ok (.pointer (some ⟨b, o + 182, none⟩)) w := by kernel_rfl
@[go_sem ↓] theorem fa195_54 (b o : Nat) (w : World) : (Instr.fieldAt 195 (.pointer (some ⟨b, o, none⟩)) 54).run Try.prog w = .ok (.pointer (some ⟨b, o + 183, none⟩)) w := by kernel_rfl
@[go_sem ↓] theorem fa195_55 (b o : Nat) (w : World) : (Instr.fieldAt 195 (.pointer (some ⟨b, o, none⟩)) 55).run Try.prog w = .ok (.pointer (some ⟨b, o + 184, none⟩)) w := by kernel_rfl
@[go_sem ↓] theorem fa195_56 (b o : Nat) (w : World) : (Instr.fieldAt 195 (.pointer (some ⟨b, o, none⟩)) 56).run Try.prog w = .ok (.pointer (some ⟨b, o + 185, none⟩)) w := by kernel_rfl
@[go_sem ↓] theorem fa195_57 (b o : Nat) (w : World) : (Instr.fieldAt 195 (.pointer (some ⟨b, o, none⟩)) 57).run Try.prog w = .ok (.pointer (some ⟨b, o + 186, none⟩)) w := by kernel_rfl
@[go_sem ↓] theorem fa195_58 (b o : Nat) (w : World) : (Instr.fieldAt 195 (.pointer (some ⟨b, o, none⟩)) 58).run Try.prog w = .ok (.pointer (some ⟨b, o + 187, none⟩)) w := by kernel_rfl
@[go_sem ↓] theorem fa195_59 (b o : Nat) (w : World) : (Instr.fieldAt 195 (.pointer (some ⟨b, o, none⟩)) 59).run Try.prog w = .ok (.pointer (some ⟨b, o + 188, none⟩)) w := by kernel_rfl
@[go_sem ↓] theorem fa195_60 (b o : Nat) (w : World) : (Instr.fieldAt 195 (.pointer (some ⟨b, o, none⟩)) 60).run Try.prog w = .ok (.pointer (some ⟨b, o + 190, none⟩)) w := by kernel_rfl
@[go_sem ↓] theorem fa195_61 (b o : Nat) (w : World) : (Instr.fieldAt 195 (.pointer (some ⟨b, o, none⟩)) 61).run Try.prog w = .ok (.pointer (some ⟨b, o + 191, none⟩)) w := by kernel_rfl
@[go_sem ↓] theorem fa195_62 (b o : Nat) (w : World) : (Instr.fieldAt 195 (.pointer (some ⟨b, o, none⟩)) 62).run Try.prog w = .ok (.pointer (some ⟨b, o + 192, none⟩)) w := by kernel_rfl
@[go_sem ↓] theorem fa195_63 (b o : Nat) (w : World) : (Instr.fieldAt 195 (.pointer (some ⟨b, o, none⟩)) 63).run Try.prog w = .ok (.pointer (some ⟨b, o + 196, none⟩)) w := by kernel_rfl
@[go_sem ↓] theorem fa195_64 (b o : Nat) (w : World) : (Instr.fieldAt 195 (.pointer (some ⟨b, o, none⟩)) 64).run Try.prog w = .ok (.pointer (some ⟨b, o + 197, none⟩)) w := by kernel_rfl
@[go_sem ↓] theorem fa195_65 (b o : Nat) (w : World) : (Instr.fieldAt 195 (.pointer (some ⟨b, o, none⟩)) 65).run Try.prog w = .ok (.pointer (some ⟨b, o + 198, none⟩)) w := by kernel_rfl
@[go_sem ↓] theorem fa195_66 (b o : Nat) (w : World) : (Instr.fieldAt 195 (.pointer (some ⟨b, o, none⟩)) 66).run Try.prog w = .ok (.pointer (some ⟨b, o + 199, none⟩)) w := by kernel_rfl
@[go_sem ↓] theorem fa195_67 (b o : Nat) (w : World) : (Instr.fieldAt 195 (.pointer (some ⟨b, o, none⟩)) 67).run Try.prog w = .ok (.pointer (some ⟨b, o + 200, none⟩)) w := by kernel_rfl
@[go_sem ↓] theorem fa195_68 (b o : Nat) (w : World) : (Instr.fieldAt 195 (.pointer (some ⟨b, o, none⟩)) 68).run Try.prog w = .ok (.pointer (some ⟨b, o + 201, none⟩)) w := by kernel_rfl
@[go_sem ↓] theorem fa195_69 (b o : Nat) (w : World) : (Instr.fieldAt 195 (.pointer (some ⟨b, o, none⟩)) 69).run Try.prog w = .ok (.pointer (some ⟨b, o + 286, none⟩)) w := by kernel_rfl
@[go_sem ↓] theorem fa195_70 (b o : Nat) (w : World) : (Instr.fieldAt 195 (.pointer (some ⟨b, o, none⟩)) 70).run Try.prog w = .ok (.pointer (some ⟨b, o + 287, none⟩)) w := by kernel_rfl
@[go_sem ↓] theorem fa195_71 (b o : Nat) (w : World) : (Instr.fieldAt 195 (.pointer (some ⟨b, o, none⟩)) 71).run Try.prog w = .ok (.pointer (some ⟨b, o + 288, none⟩)) w := by kernel_rfl
@[go_sem ↓] theorem fa195_72 (b o : Nat) (w : World) : (Instr.fieldAt 195 (.pointer (some ⟨b, o, none⟩)) 72).run Try.prog w = .ok (.pointer (some ⟨b, o + 289, none⟩)) w := by kernel_rfl
@[go_sem ↓] theorem fa195_73 (b o : Nat) (w : World) : (Instr.fieldAt 195 (.pointer (some ⟨b, o, none⟩)) 73).run Try.prog w = .ok (.pointer (some ⟨b, o + 290, none⟩)) w := by kernel_rfl
@[go_sem ↓] theorem fa195_74 (b o : Nat) (w : World) : (Instr.fieldAt 195 (.pointer (some ⟨b, o, none⟩)) 74).run Try.prog w = .ok (.pointer (some ⟨b, o + 291, none⟩)) w := by kernel_rfl
@[go_sem ↓] theorem fa195_75 (b o : Nat) (w : World) : (Instr.fieldAt 195 (.pointer (some ⟨b, o, none⟩)) 75).run Try.prog w = .ok (.pointer (some ⟨b, o + 292, none⟩)) w := by kernel_rfl
@[go_sem ↓] theorem fa195_76 (b o : Nat) (w : World) : (Instr.fieldAt 195 (.pointer (some ⟨b, o, none⟩)) 76).run Try.prog w = .ok (.pointer (some ⟨b, o + 294, none⟩)) w := by kernel_rfl
@[go_sem ↓] theorem fa195_77 (b o : Nat) (w : World) : (Instr.fieldAt 195 (.pointer (some ⟨b, o, none⟩)) 77).run Try.prog w = .ok (.pointer (some ⟨b, o + 296, none⟩)) w := by kernel_rfl
@[go_sem ↓] theorem fa195_78 (b o : Nat) (w : World) : (Instr.fieldAt 195 (.pointer (some ⟨b, o, none⟩)) 78).run Try.prog w = .ok (.pointer (some ⟨b, o + 298, none⟩)) w := by kernel_rfl
@[go_sem ↓] theorem fa195_79 (b o : Nat) (w : World) : (Instr.fieldAt 195 (.pointer (some ⟨b, o, none⟩)) 79).run Try.prog w = .ok (.pointer (some ⟨b, o + 300, none⟩)) w := by kernel_rfl
@[go_sem ↓] theorem fa195_80 (b o : Nat) (w : World) : (Instr.fieldAt 195 (.pointer (some ⟨b, o, none⟩)) 80).run Try.prog w = .ok (.pointer (some ⟨b, o + 302, none⟩)) w := by kernel_rfl
@[go_sem ↓] theorem fa195_81 (b o : Nat) (w : World) : (Instr.fieldAt 195 (.pointer (some ⟨b, o, none⟩)) 81).run Try.prog w = .ok (.pointer (some ⟨b, o + 304, none⟩)) w := by kernel_rfl
@[go_sem ↓] theorem fa195_82 (b o : Nat) (w : World) : (Instr.fieldAt 195 (.pointer (some ⟨b, o, none⟩)) 82).run Try.prog w = .ok (.pointer (some ⟨b, o + 306, none⟩)) w := by kernel_rfl
@[go_sem ↓] theorem fa195_83 (b o : Nat) (w : World) : (Instr.fieldAt 195 (.pointer (some ⟨b, o, none⟩)) 83).run Try.prog w = .ok (.pointer (some ⟨b, o + 308, none⟩)) w := by kernel_rfl
@[go_sem ↓] theorem fa195_84 (b o : Nat) (w : World) : (Instr.fieldAt 195 (.pointer (some ⟨b, o, none⟩)) 84).run Try.prog w = .ok (.pointer (some ⟨b, o + 309, none⟩)) w := by kernel_rfl
@[go_sem ↓] theorem fa195_85 (b o : Nat) (w : World) : (Instr.fieldAt 195 (.pointer (some ⟨b, o, none⟩)) 85).run Try.prog w = .ok (.pointer (some ⟨b, o + 310, none⟩)) w := by kernel_rfl
@[go_sem ↓] theorem fa195_86 (b o : Nat) (w : World) : (Instr.fieldAt 195 (.pointer (some ⟨b, o, none⟩)) 86).run Try.prog w = .ok (.pointer (some ⟨b, o + 312, none⟩)) w := by kernel_rfl
@[go_sem ↓] theorem fa195_87 (b o : Nat) (w : World) : (Instr.fieldAt 195 (.pointer (some ⟨b, o, none⟩)) 87).run Try.prog w = .ok (.pointer (some ⟨b, o + 314, none⟩)) w := by kernel_rfl
@[go_sem ↓] theorem fa195_88 (b o : Nat) (w : World) : (Instr.fieldAt 195 (.pointer (some ⟨b, o, none⟩)) 88).run Try.prog w = .ok (.pointer (some ⟨b, o + 316, none⟩)) w := by kernel_rfl
@[go_sem ↓] theorem fa195_89 (b o : Nat) (w : World) : (Instr.fieldAt 195 (.pointer (some ⟨b, o, none⟩)) 89).run Try.prog w = .ok (.pointer (some ⟨b, o + 318, none⟩)) w := by kernel_rfl
@[go_sem ↓] theorem fa195_90 (b o : Nat) (w : World) : (Instr.fieldAt 195 (.pointer (some ⟨b, o, none⟩)) 90).run Try.prog w = .ok (.pointer (some ⟨b, o + 320, none⟩)) w := by kernel_rfl
@[go_sem ↓] theorem fa195_91 (b o : Nat) (w : World) : (Instr.fieldAt 195 (.pointer (some ⟨b, o, none⟩)) 91).run Try.prog w = .ok (.pointer (some ⟨b, o + 322, none⟩)) w := by kernel_rfl
@[go_sem ↓] theorem fa195_92 (b o : Nat) (w : World) : (Instr.fieldAt 195 (.pointer (some ⟨b, o, none⟩)) 92).run Try.prog w = .ok (.pointer (some ⟨b, o + 324, none⟩)) w := by kernel_rfl
@[go_sem ↓] theorem fa195_93 (b o : Nat) (w : World) : (Instr.fieldAt 195 (.pointer (some ⟨b, o, none⟩)) 93).run Try.prog w = .ok (.pointer (some ⟨b, o + 326, none⟩)) w := by kernel_rfl
@[go_sem ↓] theorem fa195_94 (b o : Nat) (w : World) : (Instr.fieldAt 195 (.pointer (some ⟨b, o, none⟩)) 94).run Try.prog w = .ok (.pointer (some ⟨b, o + 327, none⟩)) w := by kernel_rfl
@[go_sem ↓] theorem fa195_95 (b o : Nat) (w : World) : (Instr.fieldAt 195 (.pointer (some ⟨b, o, none⟩)) 95).run Try.prog w = .ok (.pointer (some ⟨b, o + 328, none⟩)) w := by kernel_rfl
@[go_sem ↓] theorem fa195_96 (b o : Nat) (w : World) : (Instr.fieldAt 195 (.pointer (some ⟨b, o, none⟩)) 96).run Try.prog w = .ok (.pointer (some ⟨b, o + 329, none⟩)) w := by kernel_rfl
@[go_sem ↓] theorem fa195_97 (b o : Nat) (w : World) : (Instr.fieldAt 195 (.pointer (some ⟨b, o, none⟩)) 97).run Try.prog w = .ok (.pointer (some ⟨b, o + 339, none⟩)) w := by kernel_rfl
@[go_sem ↓] theorem fa195_98 (b o : Nat) (w : World) : (Instr.fieldAt 195 (.pointer (some ⟨b, o, none⟩)) 98).run Try.prog w = .ok (.pointer (some ⟨b, o + 340, none⟩)) w := by kernel_rfl
@[go_sem ↓] theorem fa195_99 (b o : Nat) (w : World) : (Instr.fieldAt 195 (.pointer (some ⟨b, o, none⟩)) 99).run Try.prog w = .ok (.pointer (some ⟨b, o + 341, none⟩)) w := by kernel_rfl
@[go_sem ↓] theorem fa195_100 (b o : Nat) (w : World) : (Instr.fieldAt 195 (.pointer (some ⟨b, o, none⟩)) 100).run Try.prog w = .ok (.pointer (some ⟨b, o + 342, none⟩)) w := by kernel_rfl
@[go_sem ↓] theorem fa195_101 (b o : Nat) (w : World) : (Instr.fieldAt 195 (.pointer (some ⟨b, o, none⟩)) 101).run Try.prog w = .ok (.pointer (some ⟨b, o + 343, none⟩)) w := by kernel_rfl
@[go_sem ↓] theorem fa195_102 (b o : Nat) (w : World) : (Instr.fieldAt 195 (.pointer (some ⟨b, o, none⟩)) 102).run Try.prog w = .ok (.pointer (some ⟨b, o + 344, none⟩)) w := by kernel_rfl
@[go_sem ↓] theorem fa195_103 (b o : Nat) (w : World) : (Instr.fieldAt 195 (.pointer (some ⟨b, o, none⟩)) 103).run Try.prog w = .ok (.pointer (some ⟨b, o + 345, none⟩)) w := by kernel_rfl
@[go_sem ↓] theorem fa195_104 (b o : Nat) (w : World) : (Instr.fieldAt 195 (.pointer (some ⟨b, o, none⟩)) 104).run Try.prog w = .ok (.pointer (some ⟨b, o + 346, none⟩)) w := by kernel_rfl
@[go_sem ↓] theorem fa195_105 (b o : Nat) (w : World) : (Instr.fieldAt 195 (.pointer (some ⟨b, o, none⟩)) 105).run Try.prog w = .ok (.pointer (some ⟨b, o + 347, none⟩)) w := by kernel_rfl
@[go_sem ↓] theorem fa195_106 (b o : Nat) (w : World) : (Instr.fieldAt 195 (.pointer (some ⟨b, o, none⟩)) 106).run Try.prog w = .ok (.pointer (some ⟨b, o + 348, none⟩)) w := by kernel_rfl
@[go_sem ↓] theorem fa195_107 (b o : Nat) (w : World) : (Instr.fieldAt 195 (.pointer (some ⟨b, o, none⟩)) 107).run Try.prog w = .ok (.pointer (some ⟨b, o + 349, none⟩)) w := by kernel_rfl
@[go_sem ↓] theorem fa195_108 (b o : Nat) (w : World) : (Instr.fieldAt 195 (.pointer (some ⟨b, o, none⟩)) 108).run Try.prog w = .ok (.pointer (some ⟨b, o + 350, none⟩)) w := by kernel_rfl
@[go_sem ↓] theorem fa195_109 (b o : Nat) (w : World) : (Instr.fieldAt 195 (.pointer (some ⟨b, o, none⟩)) 109).run Try.prog w = .ok (.pointer (some ⟨b, o + 351, none⟩)) w := by kernel_rfl
@[go_sem ↓] theorem fa195_110 (b o : Nat) (w : World) : (Instr.fieldAt 195 (.pointer (some ⟨b, o, none⟩)) 110).run Try.prog w = .ok (.pointer (some ⟨b, o + 352, none⟩)) w := by kernel_rfl

end Go.Proofs.Ytlehgpnglghlkaa
