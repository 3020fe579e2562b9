/-
  The struct types of many fields: the zero value's cells behind a name, where each field lies, what each zero cell holds.
-/
import Derived.Test.YtfmfniddnlpkmaaDoorKit
namespace Go.Proofs.YtfmfniddnlpkmaaDoor
set_option maxRecDepth 100000

noncomputable def PZ184 : Array Value := match (Tryd.prog.info? 184).bind (·.zero) with | some (.agg c) => c | _ => #[]
@[go_sem ↓] theorem zv184 (w : World) : (zeroValue 184).run Tryd.prog w = .ok (.agg PZ184) w := by kernel_rfl
@[simp, go_sem] theorem PZ184_size : PZ184.size = 353 := by kernel_rfl
@[simp, go_sem] theorem PZ184_0 : PZ184[0]? = some (.slice none 0 0) := by kernel_rfl
@[simp, go_sem] theorem PZ184_1 : PZ184[1]? = some (.nilIface) := by kernel_rfl
@[simp, go_sem] theorem PZ184_2 : PZ184[2]? = some (.slice none 0 0) := by kernel_rfl
@[simp, go_sem] theorem PZ184_3 : PZ184[3]? = some (.int .u32 0) := by kernel_rfl
@[simp, go_sem] theorem PZ184_4 : PZ184[4]? = some (.nilIface) := by kernel_rfl
@[simp, go_sem] theorem PZ184_5 : PZ184[5]? = some (.slice none 0 0) := by kernel_rfl
@[simp, go_sem] theorem PZ184_6 : PZ184[6]? = some (.int .u32 0) := by kernel_rfl
@[simp, go_sem] theorem PZ184_7 : PZ184[7]? = some (.bool false) := by kernel_rfl
@[simp, go_sem] theorem PZ184_8 : PZ184[8]? = some (.bool false) := by kernel_rfl
@[simp, go_sem] theorem PZ184_9 : PZ184[9]? = some (.bool false) := by kernel_rfl
@[simp, go_sem] theorem PZ184_10 : PZ184[10]? = some (.string ⟨#[]⟩) := by kernel_rfl
@[simp, go_sem] theorem PZ184_11 : PZ184[11]? = some (.bool false) := by kernel_rfl
@[simp, go_sem] theorem PZ184_12 : PZ184[12]? = some (.bool false) := by kernel_rfl
@[simp, go_sem] theorem PZ184_13 : PZ184[13]? = some (.pointer none) := by kernel_rfl
@[simp, go_sem] theorem PZ184_14 : PZ184[14]? = some (.pointer none) := by kernel_rfl
@[simp, go_sem] theorem PZ184_15 : PZ184[15]? = some (.pointer none) := by kernel_rfl
@[simp, go_sem] theorem PZ184_16 : PZ184[16]? = some (.slice none 0 0) := by kernel_rfl
@[simp, go_sem] theorem PZ184_17 : PZ184[17]? = some (.pointer none) := by kernel_rfl
@[simp, go_sem] theorem PZ184_18 : PZ184[18]? = some (.string ⟨#[]⟩) := by kernel_rfl
@[simp, go_sem] theorem PZ184_19 : PZ184[19]? = some (.pointer none) := by kernel_rfl
@[simp, go_sem] theorem PZ184_20 : PZ184[20]? = some (.int .i32 0) := by kernel_rfl
@[simp, go_sem] theorem PZ184_21 : PZ184[21]? = some (.int .i32 0) := by kernel_rfl
@[simp, go_sem] theorem PZ184_22 : PZ184[22]? = some (.int .u8 0) := by kernel_rfl
@[simp, go_sem] theorem PZ184_23 : PZ184[23]? = some (.int .u64 0) := by kernel_rfl
@[simp, go_sem] theorem PZ184_24 : PZ184[24]? = some (.int .u64 0) := by kernel_rfl
@[simp, go_sem] theorem PZ184_25 : PZ184[25]? = some (.int .u64 0) := by kernel_rfl
@[simp, go_sem] theorem PZ184_26 : PZ184[26]? = some (.int .u8 0) := by kernel_rfl
@[simp, go_sem] theorem PZ184_27 : PZ184[27]? = some (.int .u8 0) := by kernel_rfl
@[simp, go_sem] theorem PZ184_28 : PZ184[28]? = some (.int .u8 0) := by kernel_rfl
@[simp, go_sem] theorem PZ184_29 : PZ184[29]? = some (.int .u8 0) := by kernel_rfl
@[simp, go_sem] theorem PZ184_30 : PZ184[30]? = some (.int .u8 0) := by kernel_rfl
@[simp, go_sem] theorem PZ184_31 : PZ184[31]? = some (.int .u8 0) := by kernel_rfl
@[simp, go_sem] theorem PZ184_32 : PZ184[32]? = some (.bool false) := by kernel_rfl
@[simp, go_sem] theorem PZ184_33 : PZ184[33]? = some (.bool false) := by kernel_rfl
@[simp, go_sem] theorem PZ184_34 : PZ184[34]? = some (.int .u8 0) := by kernel_rfl
@[simp, go_sem] theorem PZ184_35 : PZ184[35]? = some (.int .u8 0) := by kernel_rfl
@[simp, go_sem] theorem PZ184_36 : PZ184[36]? = some (.int .u8 0) := by kernel_rfl
@[simp, go_sem] theorem PZ184_37 : PZ184[37]? = some (.int .u8 0) := by kernel_rfl
@[simp, go_sem] theorem PZ184_38 : PZ184[38]? = some (.int .u8 0) := by kernel_rfl
@[simp, go_sem] theorem PZ184_39 : PZ184[39]? = some (.bool false) := by kernel_rfl
@[simp, go_sem] theorem PZ184_40 : PZ184[40]? = some (.bool false) := by kernel_rfl
@[simp, go_sem] theorem PZ184_41 : PZ184[41]? = some (.bool false) := by kernel_rfl
@[simp, go_sem] theorem PZ184_42 : PZ184[42]? = some (.bool false) := by kernel_rfl
@[simp, go_sem] theorem PZ184_43 : PZ184[43]? = some (.bool false) := by kernel_rfl
@[simp, go_sem] theorem PZ184_44 : PZ184[44]? = some (.bool false) := by kernel_rfl
@[simp, go_sem] theorem PZ184_45 : PZ184[45]? = some (.bool false) := by kernel_rfl
@[simp, go_sem] theorem PZ184_46 : PZ184[46]? = some (.bool false) := by kernel_rfl
@[simp, go_sem] theorem PZ184_47 : PZ184[47]? = some (.bool false) := by kernel_rfl
@[simp, go_sem] theorem PZ184_48 : PZ184[48]? = some (.bool false) := by kernel_rfl
@[simp, go_sem] theorem PZ184_49 : PZ184[49]? = some (.bool false) := by kernel_rfl
@[simp, go_sem] theorem PZ184_50 : PZ184[50]? = some (.bool false) := by kernel_rfl
@[simp, go_sem] theorem PZ184_51 : PZ184[51]? = some (.nilFunc) := by kernel_rfl
@[simp, go_sem] theorem PZ184_52 : PZ184[52]? = some (.nilFunc) := by kernel_rfl
@[simp, go_sem] theorem PZ184_53 : PZ184[53]? = some (.nilFunc) := by kernel_rfl
@[simp, go_sem] theorem PZ184_54 : PZ184[54]? = some (.nilFunc) := by kernel_rfl
@[simp, go_sem] theorem PZ184_55 : PZ184[55]? = some (.int .i8 0) := by kernel_rfl
@[simp, go_sem] theorem PZ184_56 : PZ184[56]? = some (.map none) := by kernel_rfl
@[simp, go_sem] theorem PZ184_57 : PZ184[57]? = some (.string ⟨#[]⟩) := by kernel_rfl
@[simp, go_sem] theorem PZ184_58 : PZ184[58]? = some (.string ⟨#[]⟩) := by kernel_rfl
@[simp, go_sem] theorem PZ184_59 : PZ184[59]? = some (.string ⟨#[]⟩) := by kernel_rfl
@[simp, go_sem] theorem PZ184_60 : PZ184[60]? = some (.string ⟨#[]⟩) := by kernel_rfl
@[simp, go_sem] theorem PZ184_61 : PZ184[61]? = some (.string ⟨#[]⟩) := by kernel_rfl
@[simp, go_sem] theorem PZ184_62 : PZ184[62]? = some (.string ⟨#[]⟩) := by kernel_rfl
@[simp, go_sem] theorem PZ184_63 : PZ184[63]? = some (.string ⟨#[]⟩) := by kernel_rfl
@[simp, go_sem] theorem PZ184_64 : PZ184[64]? = some (.string ⟨#[]⟩) := by kernel_rfl
@[simp, go_sem] theorem PZ184_65 : PZ184[65]? = some (.int .u8 0) := by kernel_rfl
@[simp, go_sem] theorem PZ184_66 : PZ184[66]? = some (.int .u32 0) := by kernel_rfl
@[simp, go_sem] theorem PZ184_67 : PZ184[67]? = some (.string ⟨#[]⟩) := by kernel_rfl
@[simp, go_sem] theorem PZ184_68 : PZ184[68]? = some (.string ⟨#[]⟩) := by kernel_rfl
@[simp, go_sem] theorem PZ184_69 : PZ184[69]? = some (.string ⟨#[]⟩) := by kernel_rfl
@[simp, go_sem] theorem PZ184_70 : PZ184[70]? = some (.int .i32 0) := by kernel_rfl
@[simp, go_sem] theorem PZ184_71 : PZ184[71]? = some (.int .i32 0) := by kernel_rfl
@[simp, go_sem] theorem PZ184_72 : PZ184[72]? = some (.int .i32 0) := by kernel_rfl
@[simp, go_sem] theorem PZ184_73 : PZ184[73]? = some (.int .i32 0) := by kernel_rfl
@[simp, go_sem] theorem PZ184_74 : PZ184[74]? = some (.bool false) := by kernel_rfl
@[simp, go_sem] theorem PZ184_75 : PZ184[75]? = some (.bool false) := by kernel_rfl
@[simp, go_sem] theorem PZ184_76 : PZ184[76]? = some (.bool false) := by kernel_rfl
@[simp, go_sem] theorem PZ184_77 : PZ184[77]? = some (.pointer none) := by kernel_rfl
@[simp, go_sem] theorem PZ184_78 : PZ184[78]? = some (.pointer none) := by kernel_rfl
@[simp, go_sem] theorem PZ184_79 : PZ184[79]? = some (.int .i32 0) := by kernel_rfl
@[simp, go_sem] theorem PZ184_80 : PZ184[80]? = some (.int .i32 0) := by kernel_rfl
@[simp, go_sem] theorem PZ184_81 : PZ184[81]? = some (.int .i32 0) := by kernel_rfl
@[simp, go_sem] theorem PZ184_82 : PZ184[82]? = some (.int .u8 0) := by kernel_rfl
@[simp, go_sem] theorem PZ184_83 : PZ184[83]? = some (.int .u8 0) := by kernel_rfl
@[simp, go_sem] theorem PZ184_84 : PZ184[84]? = some (.bool false) := by kernel_rfl
@[simp, go_sem] theorem PZ184_85 : PZ184[85]? = some (.bool false) := by kernel_rfl
@[simp, go_sem] theorem PZ184_86 : PZ184[86]? = some (.bool false) := by kernel_rfl
@[simp, go_sem] theorem PZ184_87 : PZ184[87]? = some (.bool false) := by kernel_rfl
@[simp, go_sem] theorem PZ184_88 : PZ184[88]? = some (.bool false) := by kernel_rfl
@[simp, go_sem] theorem PZ184_89 : PZ184[89]? = some (.bool false) := by kernel_rfl
@[simp, go_sem] theorem PZ184_90 : PZ184[90]? = some (.bool false) := by kernel_rfl
@[simp, go_sem] theorem PZ184_91 : PZ184[91]? = some (.bool false) := by kernel_rfl
@[simp, go_sem] theorem PZ184_92 : PZ184[92]? = some (.pointer none) := by kernel_rfl
@[simp, go_sem] theorem PZ184_93 : PZ184[93]? = some (.pointer none) := by kernel_rfl
@[simp, go_sem] theorem PZ184_94 : PZ184[94]? = some (.pointer none) := by kernel_rfl
@[simp, go_sem] theorem PZ184_95 : PZ184[95]? = some (.bool false) := by kernel_rfl
@[simp, go_sem] theorem PZ184_96 : PZ184[96]? = some (.bool false) := by kernel_rfl
@[simp, go_sem] theorem PZ184_97 : PZ184[97]? = some (.pointer none) := by kernel_rfl
@[simp, go_sem] theorem PZ184_98 : PZ184[98]? = some (.bool false) := by kernel_rfl
@[simp, go_sem] theorem PZ184_99 : PZ184[99]? = some (.bool false) := by kernel_rfl
@[simp, go_sem] theorem PZ184_100 : PZ184[100]? = some (.bool false) := by kernel_rfl
@[simp, go_sem] theorem PZ184_101 : PZ184[101]? = some (.bool false) := by kernel_rfl
@[simp, go_sem] theorem PZ184_102 : PZ184[102]? = some (.bool false) := by kernel_rfl
@[simp, go_sem] theorem PZ184_103 : PZ184[103]? = some (.slice none 0 0) := by kernel_rfl
@[simp, go_sem] theorem PZ184_104 : PZ184[104]? = some (.pointer none) := by kernel_rfl
@[simp, go_sem] theorem PZ184_105 : PZ184[105]? = some (.pointer none) := by kernel_rfl
@[simp, go_sem] theorem PZ184_106 : PZ184[106]? = some (.slice none 0 0) := by kernel_rfl
@[simp, go_sem] theorem PZ184_107 : PZ184[107]? = some (.nilFunc) := by kernel_rfl
@[simp, go_sem] theorem PZ184_108 : PZ184[108]? = some (.slice none 0 0) := by kernel_rfl
@[simp, go_sem] theorem PZ184_109 : PZ184[109]? = some (.slice none 0 0) := by kernel_rfl
@[simp, go_sem] theorem PZ184_110 : PZ184[110]? = some (.map none) := by kernel_rfl
@[simp, go_sem] theorem PZ184_111 : PZ184[111]? = some (.map none) := by kernel_rfl
@[simp, go_sem] theorem PZ184_112 : PZ184[112]? = some (.map none) := by kernel_rfl
@[simp, go_sem] theorem PZ184_113 : PZ184[113]? = some (.map none) := by kernel_rfl
@[simp, go_sem] theorem PZ184_114 : PZ184[114]? = some (.map none) := by kernel_rfl
@[simp, go_sem] theorem PZ184_115 : PZ184[115]? = some (.map none) := by kernel_rfl
@[simp, go_sem] theorem PZ184_116 : PZ184[116]? = some (.slice none 0 0) := by kernel_rfl
@[simp, go_sem] theorem PZ184_117 : PZ184[117]? = some (.map none) := by kernel_rfl
@[simp, go_sem] theorem PZ184_118 : PZ184[118]? = some (.slice none 0 0) := by kernel_rfl
@[simp, go_sem] theorem PZ184_119 : PZ184[119]? = some (.int .u8 0) := by kernel_rfl
@[simp, go_sem] theorem PZ184_120 : PZ184[120]? = some (.int .u8 0) := by kernel_rfl
@[simp, go_sem] theorem PZ184_121 : PZ184[121]? = some (.int .u8 0) := by kernel_rfl
@[simp, go_sem] theorem PZ184_122 : PZ184[122]? = some (.int .u8 0) := by kernel_rfl
@[simp, go_sem] theorem PZ184_123 : PZ184[123]? = some (.int .u8 0) := by kernel_rfl
@[simp, go_sem] theorem PZ184_124 : PZ184[124]? = some (.int .u8 0) := by kernel_rfl
@[simp, go_sem] theorem PZ184_125 : PZ184[125]? = some (.int .u8 0) := by kernel_rfl
@[simp, go_sem] theorem PZ184_126 : PZ184[126]? = some (.int .u8 0) := by kernel_rfl
@[simp, go_sem] theorem PZ184_127 : PZ184[127]? = some (.int .u8 0) := by kernel_rfl
@[simp, go_sem] theorem PZ184_128 : PZ184[128]? = some (.int .u8 0) := by kernel_rfl
@[simp, go_sem] theorem PZ184_129 : PZ184[129]? = some (.int .u8 0) := by kernel_rfl
@[simp, go_sem] theorem PZ184_130 : PZ184[130]? = some (.int .u8 0) := by kernel_rfl
@[simp, go_sem] theorem PZ184_131 : PZ184[131]? = some (.int .u8 0) := by kernel_rfl
@[simp, go_sem] theorem PZ184_132 : PZ184[132]? = some (.int .u8 0) := by kernel_rfl
@[simp, go_sem] theorem PZ184_133 : PZ184[133]? = some (.int .u8 0) := by kernel_rfl
@[simp, go_sem] theorem PZ184_134 : PZ184[134]? = some (.int .u8 0) := by kernel_rfl
@[simp, go_sem] theorem PZ184_135 : PZ184[135]? = some (.int .u8 0) := by kernel_rfl
@[simp, go_sem] theorem PZ184_136 : PZ184[136]? = some (.int .u8 0) := by kernel_rfl
@[simp, go_sem] theorem PZ184_137 : PZ184[137]? = some (.int .u8 0) := by kernel_rfl
@[simp, go_sem] theorem PZ184_138 : PZ184[138]? = some (.int .u8 0) := by kernel_rfl
@[simp, go_sem] theorem PZ184_139 : PZ184[139]? = some (.int .u8 0) := by kernel_rfl
@[simp, go_sem] theorem PZ184_140 : PZ184[140]? = some (.int .u8 0) := by kernel_rfl
@[simp, go_sem] theorem PZ184_141 : PZ184[141]? = some (.int .u8 0) := by kernel_rfl
@[simp, go_sem] theorem PZ184_142 : PZ184[142]? = some (.int .u8 0) := by kernel_rfl
@[simp, go_sem] theorem PZ184_143 : PZ184[143]? = some (.int .u8 0) := by kernel_rfl
@[simp, go_sem] theorem PZ184_144 : PZ184[144]? = some (.int .u8 0) := by kernel_rfl
@[simp, go_sem] theorem PZ184_145 : PZ184[145]? = some (.int .u8 0) := by kernel_rfl
@[simp, go_sem] theorem PZ184_146 : PZ184[146]? = some (.int .u8 0) := by kernel_rfl
@[simp, go_sem] theorem PZ184_147 : PZ184[147]? = some (.int .u8 0) := by kernel_rfl
@[simp, go_sem] theorem PZ184_148 : PZ184[148]? = some (.int .u8 0) := by kernel_rfl
@[simp, go_sem] theorem PZ184_149 : PZ184[149]? = some (.int .u8 0) := by kernel_rfl
@[simp, go_sem] theorem PZ184_150 : PZ184[150]? = some (.int .u8 0) := by kernel_rfl
@[simp, go_sem] theorem PZ184_151 : PZ184[151]? = some (.map none) := by kernel_rfl
@[simp, go_sem] theorem PZ184_152 : PZ184[152]? = some (.map none) := by kernel_rfl
@[simp, go_sem] theorem PZ184_153 : PZ184[153]? = some (.map none) := by kernel_rfl
@[simp, go_sem] theorem PZ184_154 : PZ184[154]? = some (.slice none 0 0) := by kernel_rfl
@[simp, go_sem] theorem PZ184_155 : PZ184[155]? = some (.map none) := by kernel_rfl
@[simp, go_sem] theorem PZ184_156 : PZ184[156]? = some (.map none) := by kernel_rfl
@[simp, go_sem] theorem PZ184_157 : PZ184[157]? = some (.map none) := by kernel_rfl
@[simp, go_sem] theorem PZ184_158 : PZ184[158]? = some (.map none) := by kernel_rfl
@[simp, go_sem] theorem PZ184_159 : PZ184[159]? = some (.nilIface) := by kernel_rfl
@[simp, go_sem] theorem PZ184_160 : PZ184[160]? = some (.nilIface) := by kernel_rfl
@[simp, go_sem] theorem PZ184_161 : PZ184[161]? = some (.map none) := by kernel_rfl
@[simp, go_sem] theorem PZ184_162 : PZ184[162]? = some (.map none) := by kernel_rfl
@[simp, go_sem] theorem PZ184_163 : PZ184[163]? = some (.map none) := by kernel_rfl
@[simp, go_sem] theorem PZ184_164 : PZ184[164]? = some (.map none) := by kernel_rfl
@[simp, go_sem] theorem PZ184_165 : PZ184[165]? = some (.map none) := by kernel_rfl
@[simp, go_sem] theorem PZ184_166 : PZ184[166]? = some (.nilIface) := by kernel_rfl
@[simp, go_sem] theorem PZ184_167 : PZ184[167]? = some (.pointer none) := by kernel_rfl
@[simp, go_sem] theorem PZ184_168 : PZ184[168]? = some (.pointer none) := by kernel_rfl
@[simp, go_sem] theorem PZ184_169 : PZ184[169]? = some (.slice none 0 0) := by kernel_rfl
@[simp, go_sem] theorem PZ184_170 : PZ184[170]? = some (.slice none 0 0) := by kernel_rfl
@[simp, go_sem] theorem PZ184_171 : PZ184[171]? = some (.map none) := by kernel_rfl
@[simp, go_sem] theorem PZ184_172 : PZ184[172]? = some (.map none) := by kernel_rfl
@[simp, go_sem] theorem PZ184_173 : PZ184[173]? = some (.map none) := by kernel_rfl
@[simp, go_sem] theorem PZ184_174 : PZ184[174]? = some (.map none) := by kernel_rfl
@[simp, go_sem] theorem PZ184_175 : PZ184[175]? = some (.map none) := by kernel_rfl
@[simp, go_sem] theorem PZ184_176 : PZ184[176]? = some (.map none) := by kernel_rfl
@[simp, go_sem] theorem PZ184_177 : PZ184[177]? = some (.slice none 0 0) := by kernel_rfl
@[simp, go_sem] theorem PZ184_178 : PZ184[178]? = some (.string ⟨#[]⟩) := by kernel_rfl
@[simp, go_sem] theorem PZ184_179 : PZ184[179]? = some (.nilIface) := by kernel_rfl
@[simp, go_sem] theorem PZ184_180 : PZ184[180]? = some (.nilIface) := by kernel_rfl
@[simp, go_sem] theorem PZ184_181 : PZ184[181]? = some (.nilIface) := by kernel_rfl
@[simp, go_sem] theorem PZ184_182 : PZ184[182]? = some (.nilIface) := by kernel_rfl
@[simp, go_sem] theorem PZ184_183 : PZ184[183]? = some (.nilIface) := by kernel_rfl
@[simp, go_sem] theorem PZ184_184 : PZ184[184]? = some (.nilIface) := by kernel_rfl
@[simp, go_sem] theorem PZ184_185 : PZ184[185]? = some (.nilIface) := by kernel_rfl
@[simp, go_sem] theorem PZ184_186 : PZ184[186]? = some (.nilIface) := by kernel_rfl
@[simp, go_sem] theorem PZ184_187 : PZ184[187]? = some (.pointer none) := by kernel_rfl
@[simp, go_sem] theorem PZ184_188 : PZ184[188]? = some (.nilIface) := by kernel_rfl
@[simp, go_sem] theorem PZ184_189 : PZ184[189]? = some (.int .i32 0) := by kernel_rfl
@[simp, go_sem] theorem PZ184_190 : PZ184[190]? = some (.map none) := by kernel_rfl
@[simp, go_sem] theorem PZ184_191 : PZ184[191]? = some (.nilIface) := by kernel_rfl
@[simp, go_sem] theorem PZ184_192 : PZ184[192]? = some (.nilIface) := by kernel_rfl
@[simp, go_sem] theorem PZ184_193 : PZ184[193]? = some (.int .i32 0) := by kernel_rfl
@[simp, go_sem] theorem PZ184_194 : PZ184[194]? = some (.bool false) := by kernel_rfl
@[simp, go_sem] theorem PZ184_195 : PZ184[195]? = some (.bool false) := by kernel_rfl
@[simp, go_sem] theorem PZ184_196 : PZ184[196]? = some (.slice none 0 0) := by kernel_rfl
@[simp, go_sem] theorem PZ184_197 : PZ184[197]? = some (.map none) := by kernel_rfl
@[simp, go_sem] theorem PZ184_198 : PZ184[198]? = some (.slice none 0 0) := by kernel_rfl
@[simp, go_sem] theorem PZ184_199 : PZ184[199]? = some (.slice none 0 0) := by kernel_rfl
@[simp, go_sem] theorem PZ184_200 : PZ184[200]? = some (.slice none 0 0) := by kernel_rfl
@[simp, go_sem] theorem PZ184_201 : PZ184[201]? = some (.slice none 0 0) := by kernel_rfl
@[simp, go_sem] theorem PZ184_202 : PZ184[202]? = some (.slice none 0 0) := by kernel_rfl
@[simp, go_sem] theorem PZ184_203 : PZ184[203]? = some (.slice none 0 0) := by kernel_rfl
@[simp, go_sem] theorem PZ184_204 : PZ184[204]? = some (.string ⟨#[]⟩) := by kernel_rfl
@[simp, go_sem] theorem PZ184_205 : PZ184[205]? = some (.int .u32 0) := by kernel_rfl
@[simp, go_sem] theorem PZ184_206 : PZ184[206]? = some (.nilFunc) := by kernel_rfl
@[simp, go_sem] theorem PZ184_207 : PZ184[207]? = some (.nilFunc) := by kernel_rfl
@[simp, go_sem] theorem PZ184_208 : PZ184[208]? = some (.nilFunc) := by kernel_rfl
@[simp, go_sem] theorem PZ184_209 : PZ184[209]? = some (.nilFunc) := by kernel_rfl
@[simp, go_sem] theorem PZ184_210 : PZ184[210]? = some (.int .i8 0) := by kernel_rfl
@[simp, go_sem] theorem PZ184_211 : PZ184[211]? = some (.map none) := by kernel_rfl
@[simp, go_sem] theorem PZ184_212 : PZ184[212]? = some (.string ⟨#[]⟩) := by kernel_rfl
@[simp, go_sem] theorem PZ184_213 : PZ184[213]? = some (.string ⟨#[]⟩) := by kernel_rfl
@[simp, go_sem] theorem PZ184_214 : PZ184[214]? = some (.string ⟨#[]⟩) := by kernel_rfl
@[simp, go_sem] theorem PZ184_215 : PZ184[215]? = some (.string ⟨#[]⟩) := by kernel_rfl
@[simp, go_sem] theorem PZ184_216 : PZ184[216]? = some (.string ⟨#[]⟩) := by kernel_rfl
@[simp, go_sem] theorem PZ184_217 : PZ184[217]? = some (.string ⟨#[]⟩) := by kernel_rfl
@[simp, go_sem] theorem PZ184_218 : PZ184[218]? = some (.string ⟨#[]⟩) := by kernel_rfl
@[simp, go_sem] theorem PZ184_219 : PZ184[219]? = some (.string ⟨#[]⟩) := by kernel_rfl
@[simp, go_sem] theorem PZ184_220 : PZ184[220]? = some (.int .u8 0) := by kernel_rfl
@[simp, go_sem] theorem PZ184_221 : PZ184[221]? = some (.int .u32 0) := by kernel_rfl
@[simp, go_sem] theorem PZ184_222 : PZ184[222]? = some (.string ⟨#[]⟩) := by kernel_rfl
@[simp, go_sem] theorem PZ184_223 : PZ184[223]? = some (.int .i32 0) := by kernel_rfl
@[simp, go_sem] theorem PZ184_224 : PZ184[224]? = some (.int .i32 0) := by kernel_rfl
@[simp, go_sem] theorem PZ184_225 : PZ184[225]? = some (.string ⟨#[]⟩) := by kernel_rfl
@[simp, go_sem] theorem PZ184_226 : PZ184[226]? = some (.int .i32 0) := by kernel_rfl
@[simp, go_sem] theorem PZ184_227 : PZ184[227]? = some (.int .i32 0) := by kernel_rfl
@[simp, go_sem] theorem PZ184_228 : PZ184[228]? = some (.string ⟨#[]⟩) := by kernel_rfl
@[simp, go_sem] theorem PZ184_229 : PZ184[229]? = some (.int .i32 0) := by kernel_rfl
@[simp, go_sem] theorem PZ184_230 : PZ184[230]? = some (.int .i32 0) := by kernel_rfl
@[simp, go_sem] theorem PZ184_231 : PZ184[231]? = some (.string ⟨#[]⟩) := by kernel_rfl
@[simp, go_sem] theorem PZ184_232 : PZ184[232]? = some (.int .i32 0) := by kernel_rfl
@[simp, go_sem] theorem PZ184_233 : PZ184[233]? = some (.int .i32 0) := by kernel_rfl
@[simp, go_sem] theorem PZ184_234 : PZ184[234]? = some (.string ⟨#[]⟩) := by kernel_rfl
@[simp, go_sem] theorem PZ184_235 : PZ184[235]? = some (.int .i32 0) := by kernel_rfl
@[simp, go_sem] theorem PZ184_236 : PZ184[236]? = some (.int .i32 0) := by kernel_rfl
@[simp, go_sem] theorem PZ184_237 : PZ184[237]? = some (.string ⟨#[]⟩) := by kernel_rfl
@[simp, go_sem] theorem PZ184_238 : PZ184[238]? = some (.slice none 0 0) := by kernel_rfl
@[simp, go_sem] theorem PZ184_239 : PZ184[239]? = some (.string ⟨#[]⟩) := by kernel_rfl
@[simp, go_sem] theorem PZ184_240 : PZ184[240]? = some (.string ⟨#[]⟩) := by kernel_rfl
@[simp, go_sem] theorem PZ184_241 : PZ184[241]? = some (.string ⟨#[]⟩) := by kernel_rfl
@[simp, go_sem] theorem PZ184_242 : PZ184[242]? = some (.string ⟨#[]⟩) := by kernel_rfl
@[simp, go_sem] theorem PZ184_243 : PZ184[243]? = some (.string ⟨#[]⟩) := by kernel_rfl
@[simp, go_sem] theorem PZ184_244 : PZ184[244]? = some (.int .i32 0) := by kernel_rfl
@[simp, go_sem] theorem PZ184_245 : PZ184[245]? = some (.int .i32 0) := by kernel_rfl
@[simp, go_sem] theorem PZ184_246 : PZ184[246]? = some (.int .i32 0) := by kernel_rfl
@[simp, go_sem] theorem PZ184_247 : PZ184[247]? = some (.int .i32 0) := by kernel_rfl
@[simp, go_sem] theorem PZ184_248 : PZ184[248]? = some (.bool false) := by kernel_rfl
@[simp, go_sem] theorem PZ184_249 : PZ184[249]? = some (.bool false) := by kernel_rfl
@[simp, go_sem] theorem PZ184_250 : PZ184[250]? = some (.bool false) := by kernel_rfl
@[simp, go_sem] theorem PZ184_251 : PZ184[251]? = some (.int .i64 0) := by kernel_rfl
@[simp, go_sem] theorem PZ184_252 : PZ184[252]? = some (.float .f64 0) := by kernel_rfl
@[simp, go_sem] theorem PZ184_253 : PZ184[253]? = some (.int .i64 0) := by kernel_rfl
@[simp, go_sem] theorem PZ184_254 : PZ184[254]? = some (.int .i64 0) := by kernel_rfl
@[simp, go_sem] theorem PZ184_255 : PZ184[255]? = some (.int .i64 0) := by kernel_rfl
@[simp, go_sem] theorem PZ184_256 : PZ184[256]? = some (.int .i64 0) := by kernel_rfl
@[simp, go_sem] theorem PZ184_257 : PZ184[257]? = some (.int .i64 0) := by kernel_rfl
@[simp, go_sem] theorem PZ184_258 : PZ184[258]? = some (.int .i32 0) := by kernel_rfl
@[simp, go_sem] theorem PZ184_259 : PZ184[259]? = some (.int .i32 0) := by kernel_rfl
@[simp, go_sem] theorem PZ184_260 : PZ184[260]? = some (.int .i32 0) := by kernel_rfl
@[simp, go_sem] theorem PZ184_261 : PZ184[261]? = some (.int .i32 0) := by kernel_rfl
@[simp, go_sem] theorem PZ184_262 : PZ184[262]? = some (.int .i32 0) := by kernel_rfl
@[simp, go_sem] theorem PZ184_263 : PZ184[263]? = some (.int .i32 0) := by kernel_rfl
@[simp, go_sem] theorem PZ184_264 : PZ184[264]? = some (.int .i32 0) := by kernel_rfl
@[simp, go_sem] theorem PZ184_265 : PZ184[265]? = some (.int .i32 0) := by kernel_rfl
@[simp, go_sem] theorem PZ184_266 : PZ184[266]? = some (.int .i32 0) := by kernel_rfl
@[simp, go_sem] theorem PZ184_267 : PZ184[267]? = some (.int .i32 0) := by kernel_rfl
@[simp, go_sem] theorem PZ184_268 : PZ184[268]? = some (.int .i32 0) := by kernel_rfl
@[simp, go_sem] theorem PZ184_269 : PZ184[269]? = some (.int .u8 0) := by kernel_rfl
@[simp, go_sem] theorem PZ184_270 : PZ184[270]? = some (.int .u8 0) := by kernel_rfl
@[simp, go_sem] theorem PZ184_271 : PZ184[271]? = some (.int .u8 0) := by kernel_rfl
@[simp, go_sem] theorem PZ184_272 : PZ184[272]? = some (.int .u8 0) := by kernel_rfl
@[simp, go_sem] theorem PZ184_273 : PZ184[273]? = some (.int .u8 0) := by kernel_rfl
@[simp, go_sem] theorem PZ184_274 : PZ184[274]? = some (.int .u8 0) := by kernel_rfl
@[simp, go_sem] theorem PZ184_275 : PZ184[275]? = some (.int .u8 0) := by kernel_rfl
@[simp, go_sem] theorem PZ184_276 : PZ184[276]? = some (.int .u8 0) := by kernel_rfl
@[simp, go_sem] theorem PZ184_277 : PZ184[277]? = some (.bool false) := by kernel_rfl
@[simp, go_sem] theorem PZ184_278 : PZ184[278]? = some (.bool false) := by kernel_rfl
@[simp, go_sem] theorem PZ184_279 : PZ184[279]? = some (.bool false) := by kernel_rfl
@[simp, go_sem] theorem PZ184_280 : PZ184[280]? = some (.int .u8 0) := by kernel_rfl
@[simp, go_sem] theorem PZ184_281 : PZ184[281]? = some (.bool false) := by kernel_rfl
@[simp, go_sem] theorem PZ184_282 : PZ184[282]? = some (.bool false) := by kernel_rfl
@[simp, go_sem] theorem PZ184_283 : PZ184[283]? = some (.bool false) := by kernel_rfl
@[simp, go_sem] theorem PZ184_284 : PZ184[284]? = some (.bool false) := by kernel_rfl
@[simp, go_sem] theorem PZ184_285 : PZ184[285]? = some (.bool false) := by kernel_rfl
@[simp, go_sem] theorem PZ184_286 : PZ184[286]? = some (.int .i64 0) := by kernel_rfl
@[simp, go_sem] theorem PZ184_287 : PZ184[287]? = some (.int .i64 0) := by kernel_rfl
@[simp, go_sem] theorem PZ184_288 : PZ184[288]? = some (.int .i64 0) := by kernel_rfl
@[simp, go_sem] theorem PZ184_289 : PZ184[289]? = some (.int .i64 0) := by kernel_rfl
@[simp, go_sem] theorem PZ184_290 : PZ184[290]? = some (.int .i64 0) := by kernel_rfl
@[simp, go_sem] theorem PZ184_291 : PZ184[291]? = some (.int .i64 0) := by kernel_rfl
@[simp, go_sem] theorem PZ184_292 : PZ184[292]? = some (.int .u32 0) := by kernel_rfl
@[simp, go_sem] theorem PZ184_293 : PZ184[293]? = some (.int .u32 0) := by kernel_rfl
@[simp, go_sem] theorem PZ184_294 : PZ184[294]? = some (.int .u32 0) := by kernel_rfl
@[simp, go_sem] theorem PZ184_295 : PZ184[295]? = some (.int .u32 0) := by kernel_rfl
@[simp, go_sem] theorem PZ184_296 : PZ184[296]? = some (.int .u32 0) := by kernel_rfl
@[simp, go_sem] theorem PZ184_297 : PZ184[297]? = some (.int .u32 0) := by kernel_rfl
@[simp, go_sem] theorem PZ184_298 : PZ184[298]? = some (.int .u32 0) := by kernel_rfl
@[simp, go_sem] theorem PZ184_299 : PZ184[299]? = some (.int .u32 0) := by kernel_rfl
@[simp, go_sem] theorem PZ184_300 : PZ184[300]? = some (.int .u32 0) := by kernel_rfl
@[simp, go_sem] theorem PZ184_301 : PZ184[301]? = some (.int .u32 0) := by kernel_rfl
@[simp, go_sem] theorem PZ184_302 : PZ184[302]? = some (.int .u32 0) := by kernel_rfl
@[simp, go_sem] theorem PZ184_303 : PZ184[303]? = some (.int .u32 0) := by kernel_rfl
@[simp, go_sem] theorem PZ184_304 : PZ184[304]? = some (.int .u32 0) := by kernel_rfl
@[simp, go_sem] theorem PZ184_305 : PZ184[305]? = some (.int .u32 0) := by kernel_rfl
@[simp, go_sem] theorem PZ184_306 : PZ184[306]? = some (.int .u32 0) := by kernel_rfl
@[simp, go_sem] theorem PZ184_307 : PZ184[307]? = some (.int .u32 0) := by kernel_rfl
@[simp, go_sem] theorem PZ184_308 : PZ184[308]? = some (.map none) := by kernel_rfl
@[simp, go_sem] theorem PZ184_309 : PZ184[309]? = some (.map none) := by kernel_rfl
@[simp, go_sem] theorem PZ184_310 : PZ184[310]? = some (.int .u32 0) := by kernel_rfl
@[simp, go_sem] theorem PZ184_311 : PZ184[311]? = some (.int .u32 0) := by kernel_rfl
@[simp, go_sem] theorem PZ184_312 : PZ184[312]? = some (.int .u32 0) := by kernel_rfl
@[simp, go_sem] theorem PZ184_313 : PZ184[313]? = some (.int .u32 0) := by kernel_rfl
@[simp, go_sem] theorem PZ184_314 : PZ184[314]? = some (.int .i32 0) := by kernel_rfl
@[simp, go_sem] theorem PZ184_315 : PZ184[315]? = some (.int .i32 0) := by kernel_rfl
@[simp, go_sem] theorem PZ184_316 : PZ184[316]? = some (.int .i32 0) := by kernel_rfl
@[simp, go_sem] theorem PZ184_317 : PZ184[317]? = some (.int .i32 0) := by kernel_rfl
@[simp, go_sem] theorem PZ184_318 : PZ184[318]? = some (.int .i32 0) := by kernel_rfl
@[simp, go_sem] theorem PZ184_319 : PZ184[319]? = some (.int .i32 0) := by kernel_rfl
@[simp, go_sem] theorem PZ184_320 : PZ184[320]? = some (.int .i32 0) := by kernel_rfl
@[simp, go_sem] theorem PZ184_321 : PZ184[321]? = some (.int .i32 0) := by kernel_rfl
@[simp, go_sem] theorem PZ184_322 : PZ184[322]? = some (.int .i32 0) := by kernel_rfl
@[simp, go_sem] theorem PZ184_323 : PZ184[323]? = some (.int .i32 0) := by kernel_rfl
@[simp, go_sem] theorem PZ184_324 : PZ184[324]? = some (.int .i32 0) := by kernel_rfl
@[simp, go_sem] theorem PZ184_325 : PZ184[325]? = some (.int .i32 0) := by kernel_rfl
@[simp, go_sem] theorem PZ184_326 : PZ184[326]? = some (.int .i32 0) := by kernel_rfl
@[simp, go_sem] theorem PZ184_327 : PZ184[327]? = some (.int .i32 0) := by kernel_rfl
@[simp, go_sem] theorem PZ184_328 : PZ184[328]? = some (.int .i32 0) := by kernel_rfl
@[simp, go_sem] theorem PZ184_329 : PZ184[329]? = some (.int .i32 0) := by kernel_rfl
@[simp, go_sem] theorem PZ184_330 : PZ184[330]? = some (.int .i32 0) := by kernel_rfl
@[simp, go_sem] theorem PZ184_331 : PZ184[331]? = some (.bool false) := by kernel_rfl
@[simp, go_sem] theorem PZ184_332 : PZ184[332]? = some (.bool false) := by kernel_rfl
@[simp, go_sem] theorem PZ184_333 : PZ184[333]? = some (.bool false) := by kernel_rfl
@[simp, go_sem] theorem PZ184_334 : PZ184[334]? = some (.bool false) := by kernel_rfl
@[simp, go_sem] theorem PZ184_335 : PZ184[335]? = some (.bool false) := by kernel_rfl
@[simp, go_sem] theorem PZ184_336 : PZ184[336]? = some (.bool false) := by kernel_rfl
@[simp, go_sem] theorem PZ184_337 : PZ184[337]? = some (.bool false) := by kernel_rfl
@[simp, go_sem] theorem PZ184_338 : PZ184[338]? = some (.bool false) := by kernel_rfl
@[simp, go_sem] theorem PZ184_339 : PZ184[339]? = some (.int .i64 0) := by kernel_rfl
@[simp, go_sem] theorem PZ184_340 : PZ184[340]? = some (.int .i32 0) := by kernel_rfl
@[simp, go_sem] theorem PZ184_341 : PZ184[341]? = some (.bool false) := by kernel_rfl
@[simp, go_sem] theorem PZ184_342 : PZ184[342]? = some (.bool false) := by kernel_rfl
@[simp, go_sem] theorem PZ184_343 : PZ184[343]? = some (.bool false) := by kernel_rfl
@[simp, go_sem] theorem PZ184_344 : PZ184[344]? = some (.bool false) := by kernel_rfl
@[simp, go_sem] theorem PZ184_345 : PZ184[345]? = some (.bool false) := by kernel_rfl
@[simp, go_sem] theorem PZ184_346 : PZ184[346]? = some (.bool false) := by kernel_rfl
@[simp, go_sem] theorem PZ184_347 : PZ184[347]? = some (.bool false) := by kernel_rfl
@[simp, go_sem] theorem PZ184_348 : PZ184[348]? = some (.bool false) := by kernel_rfl
@[simp, go_sem] theorem PZ184_349 : PZ184[349]? = some (.bool false) := by kernel_rfl
@[simp, go_sem] theorem PZ184_350 : PZ184[350]? = some (.bool false) := by kernel_rfl
@[simp, go_sem] theorem PZ184_351 : PZ184[351]? = some (.bool false) := by kernel_rfl
@[simp, go_sem] theorem PZ184_352 : PZ184[352]? = some (.bool false) := by kernel_rfl
@[go_sem ↓] theorem fa184_0 (b o : Nat) (w : World) : (Instr.fieldAt 184 (.pointer (some ⟨b, o, none⟩)) 0).run Tryd.prog w = .ok (.pointer (some ⟨b, o, none⟩)) w := by kernel_rfl
@[go_sem ↓] theorem fa184_1 (b o : Nat) (w : World) : (Instr.fieldAt 184 (.pointer (some ⟨b, o, none⟩)) 1).run Tryd.prog w = .ok (.pointer (some ⟨b, o + 51, none⟩)) w := by kernel_rfl
@[go_sem ↓] theorem fa184_2 (b o : Nat) (w : World) : (Instr.fieldAt 184 (.pointer (some ⟨b, o, none⟩)) 2).run Tryd.prog w = .ok (.pointer (some ⟨b, o + 57, none⟩)) w := by kernel_rfl
@[go_sem ↓] theorem fa184_3 (b o : Nat) (w : World) : (Instr.fieldAt 184 (.pointer (some ⟨b, o, none⟩)) 3).run Tryd.prog w = .ok (.pointer (some ⟨b, o + 67, none⟩)) w := by kernel_rfl
@[go_sem ↓] theorem fa184_4 (b o : Nat) (w : World) : (Instr.fieldAt 184 (.pointer (some ⟨b, o, none⟩)) 4).run Tryd.prog w = .ok (.pointer (some ⟨b, o + 77, none⟩)) w := by kernel_rfl
@[go_sem ↓] theorem fa184_5 (b o : Nat) (w : World) : (Instr.fieldAt 184 (.pointer (some ⟨b, o, none⟩)) 5).run Tryd.prog w = .ok (.pointer (some ⟨b, o + 92, none⟩)) w := by kernel_rfl
@[go_sem ↓] theorem fa184_6 (b o : Nat) (w : World) : (Instr.fieldAt 184 (.pointer (some ⟨b, o, none⟩)) 6).run Tryd.prog w = .ok (.pointer (some ⟨b, o + 103, none⟩)) w := by kernel_rfl
@[go_sem ↓] theorem fa184_7 (b o : Nat) (w : World) : (Instr.fieldAt 184 (.pointer (some ⟨b, o, none⟩)) 7).run Tryd.prog w = .ok (.pointer (some ⟨b, o + 104, none⟩)) w := by kernel_rfl
@[go_sem ↓] theorem fa184_8 (b o : Nat) (w : World) : (Instr.fieldAt 184 (.pointer (some ⟨b, o, none⟩)) 8).run Tryd.prog w = .ok (.pointer (some ⟨b, o + 105, none⟩)) w := by kernel_rfl
@[go_sem ↓] theorem fa184_9 (b o : Nat) (w : World) : (Instr.fieldAt 184 (.pointer (some ⟨b, o, none⟩)) 9).run Tryd.prog w = .ok (.pointer (some ⟨b, o + 106, none⟩)) w := by kernel_rfl
@[go_sem ↓] theorem fa184_10 (b o : Nat) (w : World) : (Instr.fieldAt 184 (.pointer (some ⟨b, o, none⟩)) 10).run Tryd.prog w = .ok (.pointer (some ⟨b, o + 107, none⟩)) w := by kernel_rfl
@[go_sem ↓] theorem fa184_11 (b o : Nat) (w : World) : (Instr.fieldAt 184 (.pointer (some ⟨b, o, none⟩)) 11).run Tryd.prog w = .ok (.pointer (some ⟨b, o + 108, none⟩)) w := by kernel_rfl
@[go_sem ↓] theorem fa184_12 (b o : Nat) (w : World) : (Instr.fieldAt 184 (.pointer (some ⟨b, o, none⟩)) 12).run Tryd.prog w = .ok (.pointer (some ⟨b, o + 109, none⟩)) w := by kernel_rfl
@[go_sem ↓] theorem fa184_13 (b o : Nat) (w : World) : (Instr.fieldAt 184 (.pointer (some ⟨b, o, none⟩)) 13).run Tryd.prog w = .ok (.pointer (some ⟨b, o + 110, none⟩)) w := by kernel_rfl
@[go_sem ↓] theorem fa184_14 (b o : Nat) (w : World) : (Instr.fieldAt 184 (.pointer (some ⟨b, o, none⟩)) 14).run Tryd.prog w = .ok (.pointer (some ⟨b, o + 111, none⟩)) w := by kernel_rfl
@[go_sem ↓] theorem fa184_15 (b o : Nat) (w : World) : (Instr.fieldAt 184 (.pointer (some ⟨b, o, none⟩)) 15).run Tryd.prog w = .ok (.pointer (some ⟨b, o + 112, none⟩)) w := by kernel_rfl
@[go_sem ↓] theorem fa184_16 (b o : Nat) (w : World) : (Instr.fieldAt 184 (.pointer (some ⟨b, o, none⟩)) 16).run Tryd.prog w = .ok (.pointer (some ⟨b, o + 113, none⟩)) w := by kernel_rfl
@[go_sem ↓] theorem fa184_17 (b o : Nat) (w : World) : (Instr.fieldAt 184 (.pointer (some ⟨b, o, none⟩)) 17).run Tryd.prog w = .ok (.pointer (some ⟨b, o + 114, none⟩)) w := by kernel_rfl
@[go_sem ↓] theorem fa184_18 (b o : Nat) (w : World) : (Instr.fieldAt 184 (.pointer (some ⟨b, o, none⟩)) 18).run Tryd.prog w = .ok (.pointer (some ⟨b, o + 115, none⟩)) w := by kernel_rfl
@[go_sem ↓] theorem fa184_19 (b o : Nat) (w : World) : (Instr.fieldAt 184 (.pointer (some ⟨b, o, none⟩)) 19).run Tryd.prog w = .ok (.pointer (some ⟨b, o + 116, none⟩)) w := by kernel_rfl
@[go_sem ↓] theorem fa184_20 (b o : Nat) (w : World) : (Instr.fieldAt 184 (.pointer (some ⟨b, o, none⟩)) 20).run Tryd.prog w = .ok (.pointer (some ⟨b, o + 117, none⟩)) w := by kernel_rfl
@[go_sem ↓] theorem fa184_21 (b o : Nat) (w : World) : (Instr.fieldAt 184 (.pointer (some ⟨b, o, none⟩)) 21).run Tryd.prog w = .ok (.pointer (some ⟨b, o + 118, none⟩)) w := by kernel_rfl
@[go_sem ↓] theorem fa184_22 (b o : Nat) (w : World) : (Instr.fieldAt 184 (.pointer (some ⟨b, o, none⟩)) 22).run Tryd.prog w = .ok (.pointer (some ⟨b, o + 151, none⟩)) w := by kernel_rfl
@[go_sem ↓] theorem fa184_23 (b o : Nat) (w : World) : (Instr.fieldAt 184 (.pointer (some ⟨b, o, none⟩)) 23).run Tryd.prog w = .ok (.pointer (some ⟨b, o + 152, none⟩)) w := by kernel_rfl
@[go_sem ↓] theorem fa184_24 (b o : Nat) (w : World) : (Instr.fieldAt 184 (.pointer (some ⟨b, o, none⟩)) 24).run Tryd.prog w = .ok (.pointer (some ⟨b, o + 153, none⟩)) w := by kernel_rfl
@[go_sem ↓] theorem fa184_25 (b o : Nat) (w : World) : (Instr.fieldAt 184 (.pointer (some ⟨b, o, none⟩)) 25).run Tryd.prog w = .ok (.pointer (some ⟨b, o + 154, none⟩)) w := by kernel_rfl
@[go_sem ↓] theorem fa184_26 (b o : Nat) (w : World) : (Instr.fieldAt 184 (.pointer (some ⟨b, o, none⟩)) 26).run Tryd.prog w = .ok (.pointer (some ⟨b, o + 155, none⟩)) w := by kernel_rfl
@[go_sem ↓] theorem fa184_27 (b o : Nat) (w : World) : (Instr.fieldAt 184 (.pointer (some ⟨b, o, none⟩)) 27).run Tryd.prog w = .ok (.pointer (some ⟨b, o + 156, none⟩)) w := by kernel_rfl
@[go_sem ↓] theorem fa184_28 (b o : Nat) (w : World) : (Instr.fieldAt 184 (.pointer (some ⟨b, o, none⟩)) 28).run Tryd.prog w = .ok (.pointer (some ⟨b, o + 157, none⟩)) w := by kernel_rfl
@[go_sem ↓] theorem fa184_29 (b o : Nat) (w : World) : (Instr.fieldAt 184 (.pointer (some ⟨b, o, none⟩)) 29).run Tryd.prog w = .ok (.pointer (some ⟨b, o + 158, none⟩)) w := by kernel_rfl
@[go_sem ↓] theorem fa184_30 (b o : Nat) (w : World) : (Instr.fieldAt 184 (.pointer (some ⟨b, o, none⟩)) 30).run Tryd.prog w = .ok (.pointer (some ⟨b, o + 159, none⟩)) w := by kernel_rfl
@[go_sem ↓] theorem fa184_31 (b o : Nat) (w : World) : (Instr.fieldAt 184 (.pointer (some ⟨b, o, none⟩)) 31).run Tryd.prog w = .ok (.pointer (some ⟨b, o + 160, none⟩)) w := by kernel_rfl
@[go_sem ↓] theorem fa184_32 (b o : Nat) (w : World) : (Instr.fieldAt 184 (.pointer (some ⟨b, o, none⟩)) 32).run Tryd.prog w = .ok (.pointer (some ⟨b, o + 161, none⟩)) w := by kernel_rfl
@[go_sem ↓] theorem fa184_33 (b o : Nat) (w : World) : (Instr.fieldAt 184 (.pointer (some ⟨b, o, none⟩)) 33).run Tryd.prog w = .ok (.pointer (some ⟨b, o + 162, none⟩)) w := by kernel_rfl
@[go_sem ↓] theorem fa184_34 (b o : Nat) (w : World) : (Instr.fieldAt 184 (.pointer (some ⟨b, o, none⟩)) 34).run Tryd.prog w = .ok (.pointer (some ⟨b, o + 163, none⟩)) w := by kernel_rfl
@[go_sem ↓] theorem fa184_35 (b o : Nat) (w : World) : (Instr.fieldAt 184 (.pointer (some ⟨b, o, none⟩)) 35).run Tryd.prog w = .ok (.pointer (some ⟨b, o + 164, none⟩)) w := by kernel_rfl
@[go_sem ↓] theorem fa184_36 (b o : Nat) (w : World) : (Instr.fieldAt 184 (.pointer (some ⟨b, o, none⟩)) 36).run Tryd.prog w = .ok (.pointer (some ⟨b, o + 165, none⟩)) w := by kernel_rfl
@[go_sem ↓] theorem fa184_37 (b o : Nat) (w : World) : (Instr.fieldAt 184 (.pointer (some ⟨b, o, none⟩)) 37).run Tryd.prog w = .ok (.pointer (some ⟨b, o + 166, none⟩)) w := by kernel_rfl
@[go_sem ↓] theorem fa184_38 (b o : Nat) (w : World) : (Instr.fieldAt 184 (.pointer (some ⟨b, o, none⟩)) 38).run Tryd.prog w = .ok (.pointer (some ⟨b, o + 167, none⟩)) w := by kernel_rfl
@[go_sem ↓] theorem fa184_39 (b o : Nat) (w : World) : (Instr.fieldAt 184 (.pointer (some ⟨b, o, none⟩)) 39).run Tryd.prog w = .ok (.pointer (some ⟨b, o + 168, none⟩)) w := by kernel_rfl
@[go_sem ↓] theorem fa184_40 (b o : Nat) (w : World) : (Instr.fieldAt 184 (.pointer (some ⟨b, o, none⟩)) 40).run Tryd.prog w = .ok (.pointer (some ⟨b, o + 169, none⟩)) w := by kernel_rfl
@[go_sem ↓] theorem fa184_41 (b o : Nat) (w : World) : (Instr.fieldAt 184 (.pointer (some ⟨b, o, none⟩)) 41).run Tryd.prog w = .ok (.pointer (some ⟨b, o + 170, none⟩)) w := by kernel_rfl
@[go_sem ↓] theorem fa184_42 (b o : Nat) (w : World) : (Instr.fieldAt 184 (.pointer (some ⟨b, o, none⟩)) 42).run Tryd.prog w = .ok (.pointer (some ⟨b, o + 171, none⟩)) w := by kernel_rfl
@[go_sem ↓] theorem fa184_43 (b o : Nat) (w : World) : (Instr.fieldAt 184 (.pointer (some ⟨b, o, none⟩)) 43).run Tryd.prog w = .ok (.pointer (some ⟨b, o + 172, none⟩)) w := by kernel_rfl
@[go_sem ↓] theorem fa184_44 (b o : Nat) (w : World) : (Instr.fieldAt 184 (.pointer (some ⟨b, o, none⟩)) 44).run Tryd.prog w = .ok (.pointer (some ⟨b, o + 173, none⟩)) w := by kernel_rfl
@[go_sem ↓] theorem fa184_45 (b o : Nat) (w : World) : (Instr.fieldAt 184 (.pointer (some ⟨b, o, none⟩)) 45).run Tryd.prog w = .ok (.pointer (some ⟨b, o + 174, none⟩)) w := by kernel_rfl
@[go_sem ↓] theorem fa184_46 (b o : Nat) (w : World) : (Instr.fieldAt 184 (.pointer (some ⟨b, o, none⟩)) 46).run Tryd.prog w = .ok (.pointer (some ⟨b, o + 175, none⟩)) w := by kernel_rfl
@[go_sem ↓] theorem fa184_47 (b o : Nat) (w : World) : (Instr.fieldAt 184 (.pointer (some ⟨b, o, none⟩)) 47).run Tryd.prog w = .ok (.pointer (some ⟨b, o + 176, none⟩)) w := by kernel_rfl
@[go_sem ↓] theorem fa184_48 (b o : Nat) (w : World) : (Instr.fieldAt 184 (.pointer (some ⟨b, o, none⟩)) 48).run Tryd.prog w = .ok (.pointer (some ⟨b, o + 177, none⟩)) w := by kernel_rfl
@[go_sem ↓] theorem fa184_49 (b o : Nat) (w : World) : (Instr.fieldAt 184 (.pointer (some ⟨b, o, none⟩)) 49).run Tryd.prog w = .ok (.pointer (some ⟨b, o + 178, none⟩)) w := by kernel_rfl
@[go_sem ↓] theorem fa184_50 (b o : Nat) (w : World) : (Instr.fieldAt 184 (.pointer (some ⟨b, o, none⟩)) 50).run Tryd.prog w = .ok (.pointer (some ⟨b, o + 179, none⟩)) w := by kernel_rfl
@[go_sem ↓] theorem fa184_51 (b o : Nat) (w : World) : (Instr.fieldAt 184 (.pointer (some ⟨b, o, none⟩)) 51).run Tryd.prog w = .ok (.pointer (some ⟨b, o + 180, none⟩)) w := by kernel_rfl
@[go_sem ↓] theorem fa184_52 (b o : Nat) (w : World) : (Instr.fieldAt 184 (.pointer (some ⟨b, o, none⟩)) 52).run Tryd.prog w = .ok (.pointer (some ⟨b, o + 181, none⟩)) w := by kernel_rfl
@[go_sem ↓] theorem fa184_53 (b o : Nat) (w : World) : (Instr.fieldAt 184 (.pointer (some ⟨b, o, none⟩)) 53).run Tryd.prog w = .ok (.pointer (some ⟨b, o + 182, none⟩)) w := by kernel_rfl
@[go_sem ↓] theorem fa184_54 (b o : Nat) (w : World) : (Instr.fieldAt 184 (.pointer (some ⟨b, o, none⟩)) 54).run Tryd.prog w = .ok (.pointer (some ⟨b, o + 183, none⟩)) w := by kernel_rfl
@[go_sem ↓] theorem fa184_55 (b o : Nat) (w : World) : (Instr.fieldAt 184 (.pointer (some ⟨b, o, none⟩)) 55).run Tryd.prog w = .ok (.pointer (some ⟨b, o + 184, none⟩)) w := by kernel_rfl
@[go_sem ↓] theorem fa184_56 (b o : Nat) (w : World) : (Instr.fieldAt 184 (.pointer (some ⟨b, o, none⟩)) 56).run Tryd.prog w = .ok (.pointer (some ⟨b, o + 185, none⟩)) w := by kernel_rfl
@[go_sem ↓] theorem fa184_57 (b o : Nat) (w : World) : (Instr.fieldAt 184 (.pointer (some ⟨b, o, none⟩)) 57).run Tryd.prog w = .ok (.pointer (some ⟨b, o + 186, none⟩)) w := by kernel_rfl
@[go_sem ↓] theorem fa184_58 (b o : Nat) (w : World) : (Instr.fieldAt 184 (.pointer (some ⟨b, o, none⟩)) 58).run Tryd.prog w = .ok (.pointer (some ⟨b, o + 187, none⟩)) w := by kernel_rfl
@[go_sem ↓] theorem fa184_59 (b o : Nat) (w : World) : (Instr.fieldAt 184 (.pointer (some ⟨b, o, none⟩)) 59).run Tryd.prog w = .ok (.pointer (some ⟨b, o + 188, none⟩)) w := by kernel_rfl
@[go_sem ↓] theorem fa184_60 (b o : Nat) (w : World) : (Instr.fieldAt 184 (.pointer (some ⟨b, o, none⟩)) 60).run Tryd.prog w = .ok (.pointer (some ⟨b, o + 190, none⟩)) w := by kernel_rfl
@[go_sem ↓] theorem fa184_61 (b o : Nat) (w : World) : (Instr.fieldAt 184 (.pointer (some ⟨b, o, none⟩)) 61).run Tryd.prog w = .ok (.pointer (some ⟨b, o + 191, none⟩)) w := by kernel_rfl
@[go_sem ↓] theorem fa184_62 (b o : Nat) (w : World) : (Instr.fieldAt 184 (.pointer (some ⟨b, o, none⟩)) 62).run Tryd.prog w = .ok (.pointer (some ⟨b, o + 192, none⟩)) w := by kernel_rfl
@[go_sem ↓] theorem fa184_63 (b o : Nat) (w : World) : (Instr.fieldAt 184 (.pointer (some ⟨b, o, none⟩)) 63).run Tryd.prog w = .ok (.pointer (some ⟨b, o + 196, none⟩)) w := by kernel_rfl
@[go_sem ↓] theorem fa184_64 (b o : Nat) (w : World) : (Instr.fieldAt 184 (.pointer (some ⟨b, o, none⟩)) 64).run Tryd.prog w = .ok (.pointer (some ⟨b, o + 197, none⟩)) w := by kernel_rfl
@[go_sem ↓] theorem fa184_65 (b o : Nat) (w : World) : (Instr.fieldAt 184 (.pointer (some ⟨b, o, none⟩)) 65).run Tryd.prog w = .ok (.pointer (some ⟨b, o + 198, none⟩)) w := by kernel_rfl
@[go_sem ↓] theorem fa184_66 (b o : Nat) (w : World) : (Instr.fieldAt 184 (.pointer (some ⟨b, o, none⟩)) 66).run Tryd.prog w = .ok (.pointer (some ⟨b, o + 199, none⟩)) w := by kernel_rfl
@[go_sem ↓] theorem fa184_67 (b o : Nat) (w : World) : (Instr.fieldAt 184 (.pointer (some ⟨b, o, none⟩)) 67).run Tryd.prog w = .ok (.pointer (some ⟨b, o + 200, none⟩)) w := by kernel_rfl
@[go_sem ↓] theorem fa184_68 (b o : Nat) (w : World) : (Instr.fieldAt 184 (.pointer (some ⟨b, o, none⟩)) 68).run Tryd.prog w = .ok (.pointer (some ⟨b, o + 201, none⟩)) w := by kernel_rfl
@[go_sem ↓] theorem fa184_69 (b o : Nat) (w : World) : (Instr.fieldAt 184 (.pointer (some ⟨b, o, none⟩)) 69).run Tryd.prog w = .ok (.pointer (some ⟨b, o + 286, none⟩)) w := by kernel_rfl
@[go_sem ↓] theorem fa184_70 (b o : Nat) (w : World) : (Instr.fieldAt 184 (.pointer (some ⟨b, o, none⟩)) 70).run Tryd.prog w = .ok (.pointer (some ⟨b, o + 287, none⟩)) w := by kernel_rfl
@[go_sem ↓] theorem fa184_71 (b o : Nat) (w : World) : (Instr.fieldAt 184 (.pointer (some ⟨b, o, none⟩)) 71).run Tryd.prog w = .ok (.pointer (some ⟨b, o + 288, none⟩)) w := by kernel_rfl
@[go_sem ↓] theorem fa184_72 (b o : Nat) (w : World) : (Instr.fieldAt 184 (.pointer (some ⟨b, o, none⟩)) 72).run Tryd.prog w = .ok (.pointer (some ⟨b, o + 289, none⟩)) w := by kernel_rfl
@[go_sem ↓] theorem fa184_73 (b o : Nat) (w : World) : (Instr.fieldAt 184 (.pointer (some ⟨b, o, none⟩)) 73).run Tryd.prog w = .ok (.pointer (some ⟨b, o + 290, none⟩)) w := by kernel_rfl
@[go_sem ↓] theorem fa184_74 (b o : Nat) (w : World) : (Instr.fieldAt 184 (.pointer (some ⟨b, o, none⟩)) 74).run Tryd.prog w = .ok (.pointer (some ⟨b, o + 291, none⟩)) w := by kernel_rfl
@[go_sem ↓] theorem fa184_75 (b o : Nat) (w : World) : (Instr.fieldAt 184 (.pointer (some ⟨b, o, none⟩)) 75).run Tryd.prog w = .ok (.pointer (some ⟨b, o + 292, none⟩)) w := by kernel_rfl
@[go_sem ↓] theorem fa184_76 (b o : Nat) (w : World) : (Instr.fieldAt 184 (.pointer (some ⟨b, o, none⟩)) 76).run Tryd.prog w = .ok (.pointer (some ⟨b, o + 294, none⟩)) w := by kernel_rfl
@[go_sem ↓] theorem fa184_77 (b o : Nat) (w : World) : (Instr.fieldAt 184 (.pointer (some ⟨b, o, none⟩)) 77).run Tryd.prog w = .ok (.pointer (some ⟨b, o + 296, none⟩)) w := by kernel_rfl
@[go_sem ↓] theorem fa184_78 (b o : Nat) (w : World) : (Instr.fieldAt 184 (.pointer (some ⟨b, o, none⟩)) 78).run Tryd.prog w = .ok (.pointer (some ⟨b, o + 298, none⟩)) w := by kernel_rfl
@[go_sem ↓] theorem fa184_79 (b o : Nat) (w : World) : (Instr.fieldAt 184 (.pointer (some ⟨b, o, none⟩)) 79).run Tryd.prog w = .ok (.pointer (some ⟨b, o + 300, none⟩)) w := by kernel_rfl
@[go_sem ↓] theorem fa184_80 (b o : Nat) (w : World) : (Instr.fieldAt 184 (.pointer (some ⟨b, o, none⟩)) 80).run Tryd.prog w = .ok (.pointer (some ⟨b, o + 302, none⟩)) w := by kernel_rfl
@[go_sem ↓] theorem fa184_81 (b o : Nat) (w : World) : (Instr.fieldAt 184 (.pointer (some ⟨b, o, none⟩)) 81).run Tryd.prog w = .ok (.pointer (some ⟨b, o + 304, none⟩)) w := by kernel_rfl
@[go_sem ↓] theorem fa184_82 (b o : Nat) (w : World) : (Instr.fieldAt 184 (.pointer (some ⟨b, o, none⟩)) 82).run Tryd.prog w = .ok (.pointer (some ⟨b, o + 306, none⟩)) w := by kernel_rfl
@[go_sem ↓] theorem fa184_83 (b o : Nat) (w : World) : (Instr.fieldAt 184 (.pointer (some ⟨b, o, none⟩)) 83).run Tryd.prog w = .ok (.pointer (some ⟨b, o + 308, none⟩)) w := by kernel_rfl
@[go_sem ↓] theorem fa184_84 (b o : Nat) (w : World) : (Instr.fieldAt 184 (.pointer (some ⟨b, o, none⟩)) 84).run Tryd.prog w = .ok (.pointer (some ⟨b, o + 309, none⟩)) w := by kernel_rfl
@[go_sem ↓] theorem fa184_85 (b o : Nat) (w : World) : (Instr.fieldAt 184 (.pointer (some ⟨b, o, none⟩)) 85).run Tryd.prog w = .ok (.pointer (some ⟨b, o + 310, none⟩)) w := by kernel_rfl
@[go_sem ↓] theorem fa184_86 (b o : Nat) (w : World) : (Instr.fieldAt 184 (.pointer (some ⟨b, o, none⟩)) 86).run Tryd.prog w = .ok (.pointer (some ⟨b, o + 312, none⟩)) w := by kernel_rfl
@[go_sem ↓] theorem fa184_87 (b o : Nat) (w : World) : (Instr.fieldAt 184 (.pointer (some ⟨b, o, none⟩)) 87).run Tryd.prog w = .ok (.pointer (some ⟨b, o + 314, none⟩)) w := by kernel_rfl
@[go_sem ↓] theorem fa184_88 (b o : Nat) (w : World) : (Instr.fieldAt 184 (.pointer (some ⟨b, o, none⟩)) 88).run Tryd.prog w = .ok (.pointer (some ⟨b, o + 316, none⟩)) w := by kernel_rfl
@[go_sem ↓] theorem fa184_89 (b o : Nat) (w : World) : (Instr.fieldAt 184 (.pointer (some ⟨b, o, none⟩)) 89).run Tryd.prog w = .ok (.pointer (some ⟨b, o + 318, none⟩)) w := by kernel_rfl
@[go_sem ↓] theorem fa184_90 (b o : Nat) (w : World) : (Instr.fieldAt 184 (.pointer (some ⟨b, o, none⟩)) 90).run Tryd.prog w = .ok (.pointer (some ⟨b, o + 320, none⟩)) w := by kernel_rfl
@[go_sem ↓] theorem fa184_91 (b o : Nat) (w : World) : (Instr.fieldAt 184 (.pointer (some ⟨b, o, none⟩)) 91).run Tryd.prog w = .ok (.pointer (some ⟨b, o + 322, none⟩)) w := by kernel_rfl
@[go_sem ↓] theorem fa184_92 (b o : Nat) (w : World) : (Instr.fieldAt 184 (.pointer (some ⟨b, o, none⟩)) 92).run Tryd.prog w = .ok (.pointer (some ⟨b, o + 324, none⟩)) w := by kernel_rfl
@[go_sem ↓] theorem fa184_93 (b o : Nat) (w : World) : (Instr.fieldAt 184 (.pointer (some ⟨b, o, none⟩)) 93).run Tryd.prog w = .ok (.pointer (some ⟨b, o + 326, none⟩)) w := by kernel_rfl
@[go_sem ↓] theorem fa184_94 (b o : Nat) (w : World) : (Instr.fieldAt 184 (.pointer (some ⟨b, o, none⟩)) 94).run Tryd.prog w = .ok (.pointer (some ⟨b, o + 327, none⟩)) w := by kernel_rfl
@[go_sem ↓] theorem fa184_95 (b o : Nat) (w : World) : (Instr.fieldAt 184 (.pointer (some ⟨b, o, none⟩)) 95).run Tryd.prog w = .ok (.pointer (some ⟨b, o + 328, none⟩)) w := by kernel_rfl
@[go_sem ↓] theorem fa184_96 (b o : Nat) (w : World) : (Instr.fieldAt 184 (.pointer (some ⟨b, o, none⟩)) 96).run Tryd.prog w = .ok (.pointer (some ⟨b, o + 329, none⟩)) w := by kernel_rfl
@[go_sem ↓] theorem fa184_97 (b o : Nat) (w : World) : (Instr.fieldAt 184 (.pointer (some ⟨b, o, none⟩)) 97).run Tryd.prog w = .ok (.pointer (some ⟨b, o + 339, none⟩)) w := by kernel_rfl
@[go_sem ↓] theorem fa184_98 (b o : Nat) (w : World) : (Instr.fieldAt 184 (.pointer (some ⟨b, o, none⟩)) 98).run Tryd.prog w = .ok (.pointer (some ⟨b, o + 340, none⟩)) w := by kernel_rfl
@[go_sem ↓] theorem fa184_99 (b o : Nat) (w : World) : (Instr.fieldAt 184 (.pointer (some ⟨b, o, none⟩)) 99).run Tryd.prog w = .ok (.pointer (some ⟨b, o + 341, none⟩)) w := by kernel_rfl
@[go_sem ↓] theorem fa184_100 (b o : Nat) (w : World) : (Instr.fieldAt 184 (.pointer (some ⟨b, o, none⟩)) 100).run Tryd.prog w = .ok (.pointer (some ⟨b, o + 342, none⟩)) w := by kernel_rfl
@[go_sem ↓] theorem fa184_101 (b o : Nat) (w : World) : (Instr.fieldAt 184 (.pointer (some ⟨b, o, none⟩)) 101).run Tryd.prog w = .ok (.pointer (some ⟨b, o + 343, none⟩)) w := by kernel_rfl
@[go_sem ↓] theorem fa184_102 (b o : Nat) (w : World) : (Instr.fieldAt 184 (.pointer (some ⟨b, o, none⟩)) 102).run Tryd.prog w = .ok (.pointer (some ⟨b, o + 344, none⟩)) w := by kernel_rfl
@[go_sem ↓] theorem fa184_103 (b o : Nat) (w : World) : (Instr.fieldAt 184 (.pointer (some ⟨b, o, none⟩)) 103).run Tryd.prog w = .ok (.pointer (some ⟨b, o + 345, none⟩)) w := by kernel_rfl
@[go_sem ↓] theorem fa184_104 (b o : Nat) (w : World) : (Instr.fieldAt 184 (.pointer (some ⟨b, o, none⟩)) 104).run Tryd.prog w = .ok (.pointer (some ⟨b, o + 346, none⟩)) w := by kernel_rfl
@[go_sem ↓] theorem fa184_105 (b o : Nat) (w : World) : (Instr.fieldAt 184 (.pointer (some ⟨b, o, none⟩)) 105).run Tryd.prog w = .ok (.pointer (some ⟨b, o + 347, none⟩)) w := by kernel_rfl
@[go_sem ↓] theorem fa184_106 (b o : Nat) (w : World) : (Instr.fieldAt 184 (.pointer (some ⟨b, o, none⟩)) 106).run Tryd.prog w = .ok (.pointer (some ⟨b, o + 348, none⟩)) w := by kernel_rfl
@[go_sem ↓] theorem fa184_107 (b o : Nat) (w : World) : (Instr.fieldAt 184 (.pointer (some ⟨b, o, none⟩)) 107).run Tryd.prog w = .ok (.pointer (some ⟨b, o + 349, none⟩)) w := by kernel_rfl
@[go_sem ↓] theorem fa184_108 (b o : Nat) (w : World) : (Instr.fieldAt 184 (.pointer (some ⟨b, o, none⟩)) 108).run Tryd.prog w = .ok (.pointer (some ⟨b, o + 350, none⟩)) w := by kernel_rfl
@[go_sem ↓] theorem fa184_109 (b o : Nat) (w : World) : (Instr.fieldAt 184 (.pointer (some ⟨b, o, none⟩)) 109).run Tryd.prog w = .ok (.pointer (some ⟨b, o + 351, none⟩)) w := by kernel_rfl
@[go_sem ↓] theorem fa184_110 (b o : Nat) (w : World) : (Instr.fieldAt 184 (.pointer (some ⟨b, o, none⟩)) 110).run Tryd.prog w = .ok (.pointer (some ⟨b, o + 352, none⟩)) w := by kernel_rfl

end Go.Proofs.YtfmfniddnlpkmaaDoor
