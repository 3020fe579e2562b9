/-
  The struct types of many fields: the zero value's cells behind a name, where each field lies, what each zero cell holds.
-/
import Derived.Test.YtgefhkjidldjlacKit
namespace Go.Proofs.Ytgefhkjidldjlac
set_option maxRecDepth 100000

noncomputable def PZ242 : Array Value := match (Try.prog.info? 242).bind (·.zero) with | some (.agg c) => c | _ => #[]
@[go_sem ↓] theorem zv242 (w : World) : (zeroValue 242).run Try.prog w = .ok (.agg PZ242) w := by kernel_rfl
@[simp, go_sem] theorem PZ242_size : PZ242.size = 353 := by kernel_rfl
@[simp, go_sem] theorem PZ242_0 : PZ242[0]? = some (.slice none 0 0) := by kernel_rfl
@[simp, go_sem] theorem PZ242_1 : PZ242[1]? = some (.nilIface) := by kernel_rfl
@[simp, go_sem] theorem PZ242_2 : PZ242[2]? = some (.slice none 0 0) := by kernel_rfl
@[simp, go_sem] theorem PZ242_3 : PZ242[3]? = some (.int .u32 0) := by kernel_rfl
@[simp, go_sem] theorem PZ242_4 : PZ242[4]? = some (.nilIface) := by kernel_rfl
@[simp, go_sem] theorem PZ242_5 : PZ242[5]? = some (.slice none 0 0) := by kernel_rfl
@[simp, go_sem] theorem PZ242_6 : PZ242[6]? = some (.int .u32 0) := by kernel_rfl
@[simp, go_sem] theorem PZ242_7 : PZ242[7]? = some (.bool false) := by kernel_rfl
@[simp, go_sem] theorem PZ242_8 : PZ242[8]? = some (.bool false) := by kernel_rfl
@[simp, go_sem] theorem PZ242_9 : PZ242[9]? = some (.bool false) := by kernel_rfl
@[simp, go_sem] theorem PZ242_10 : PZ242[10]? = some (.string ⟨#[]⟩) := by kernel_rfl
@[simp, go_sem] theorem PZ242_11 : PZ242[11]? = some (.bool false) := by kernel_rfl
@[simp, go_sem] theorem PZ242_12 : PZ242[12]? = some (.bool false) := by kernel_rfl
@[simp, go_sem] theorem PZ242_13 : PZ242[13]? = some (.pointer none) := by kernel_rfl
@[simp, go_sem] theorem PZ242_14 : PZ242[14]? = some (.pointer none) := by kernel_rfl
@[simp, go_sem] theorem PZ242_15 : PZ242[15]? = some (.pointer none) := by kernel_rfl
@[simp, go_sem] theorem PZ242_16 : PZ242[16]? = some (.slice none 0 0) := by kernel_rfl
@[simp, go_sem] theorem PZ242_17 : PZ242[17]? = some (.pointer none) := by kernel_rfl
@[simp, go_sem] theorem PZ242_18 : PZ242[18]? = some (.string ⟨#[]⟩) := by kernel_rfl
@[simp, go_sem] theorem PZ242_19 : PZ242[19]? = some (.pointer none) := by kernel_rfl
@[simp, go_sem] theorem PZ242_20 : PZ242[20]? = some (.int .i32 0) := by kernel_rfl
@[simp, go_sem] theorem PZ242_21 : PZ242[21]? = some (.int .i32 0) := by kernel_rfl
@[simp, go_sem] theorem PZ242_22 : PZ242[22]? = some (.int .u8 0) := by kernel_rfl
@[simp, go_sem] theorem PZ242_23 : PZ242[23]? = some (.int .u64 0) := by kernel_rfl
@[simp, go_sem] theorem PZ242_24 : PZ242[24]? = some (.int .u64 0) := by kernel_rfl
@[simp, go_sem] theorem PZ242_25 : PZ242[25]? = some (.int .u64 0) := by kernel_rfl
@[simp, go_sem] theorem PZ242_26 : PZ242[26]? = some (.int .u8 0) := by kernel_rfl
@[simp, go_sem] theorem PZ242_27 : PZ242[27]? = some (.int .u8 0) := by kernel_rfl
@[simp, go_sem] theorem PZ242_28 : PZ242[28]? = some (.int .u8 0) := by kernel_rfl
@[simp, go_sem] theorem PZ242_29 : PZ242[29]? = some (.int .u8 0) := by kernel_rfl
@[simp, go_sem] theorem PZ242_30 : PZ242[30]? = some (.int .u8 0) := by kernel_rfl
@[simp, go_sem] theorem PZ242_31 : PZ242[31]? = some (.int .u8 0) := by kernel_rfl
@[simp, go_sem] theorem PZ242_32 : PZ242[32]? = some (.bool false) := by kernel_rfl
@[simp, go_sem] theorem PZ242_33 : PZ242[33]? = some (.bool false) := by kernel_rfl
@[simp, go_sem] theorem PZ242_34 : PZ242[34]? = some (.int .u8 0) := by kernel_rfl
@[simp, go_sem] theorem PZ242_35 : PZ242[35]? = some (.int .u8 0) := by kernel_rfl
@[simp, go_sem] theorem PZ242_36 : PZ242[36]? = some (.int .u8 0) := by kernel_rfl
@[simp, go_sem] theorem PZ242_37 : PZ242[37]? = some (.int .u8 0) := by kernel_rfl
@[simp, go_sem] theorem PZ242_38 : PZ242[38]? = some (.int .u8 0) := by kernel_rfl
@[simp, go_sem] theorem PZ242_39 : PZ242[39]? = some (.bool false) := by kernel_rfl
@[simp, go_sem] theorem PZ242_40 : PZ242[40]? = some (.bool false) := by kernel_rfl
@[simp, go_sem] theorem PZ242_41 : PZ242[41]? = some (.bool false) := by kernel_rfl
@[simp, go_sem] theorem PZ242_42 : PZ242[42]? = some (.bool false) := by kernel_rfl
@[simp, go_sem] theorem PZ242_43 : PZ242[43]? = some (.bool false) := by kernel_rfl
@[simp, go_sem] theorem PZ242_44 : PZ242[44]? = some (.bool false) := by kernel_rfl
@[simp, go_sem] theorem PZ242_45 : PZ242[45]? = some (.bool false) := by kernel_rfl
@[simp, go_sem] theorem PZ242_46 : PZ242[46]? = some (.bool false) := by kernel_rfl
@[simp, go_sem] theorem PZ242_47 : PZ242[47]? = some (.bool false) := by kernel_rfl
@[simp, go_sem] theorem PZ242_48 : PZ242[48]? = some (.bool false) := by kernel_rfl
@[simp, go_sem] theorem PZ242_49 : PZ242[49]? = some (.bool false) := by kernel_rfl
@[simp, go_sem] theorem PZ242_50 : PZ242[50]? = some (.bool false) := by kernel_rfl
@[simp, go_sem] theorem PZ242_51 : PZ242[51]? = some (.nilFunc) := by kernel_rfl
@[simp, go_sem] theorem PZ242_52 : PZ242[52]? = some (.nilFunc) := by kernel_rfl
@[simp, go_sem] theorem PZ242_53 : PZ242[53]? = some (.nilFunc) := by kernel_rfl
@[simp, go_sem] theorem PZ242_54 : PZ242[54]? = some (.nilFunc) := by kernel_rfl
@[simp, go_sem] theorem PZ242_55 : PZ242[55]? = some (.int .i8 0) := by kernel_rfl
@[simp, go_sem] theorem PZ242_56 : PZ242[56]? = some (.map none) := by kernel_rfl
@[simp, go_sem] theorem PZ242_57 : PZ242[57]? = some (.string ⟨#[]⟩) := by kernel_rfl
@[simp, go_sem] theorem PZ242_58 : PZ242[58]? = some (.string ⟨#[]⟩) := by kernel_rfl
@[simp, go_sem] theorem PZ242_59 : PZ242[59]? = some (.string ⟨#[]⟩) := by kernel_rfl
@[simp, go_sem] theorem PZ242_60 : PZ242[60]? = some (.string ⟨#[]⟩) := by kernel_rfl
@[simp, go_sem] theorem PZ242_61 : PZ242[61]? = some (.string ⟨#[]⟩) := by kernel_rfl
@[simp, go_sem] theorem PZ242_62 : PZ242[62]? = some (.string ⟨#[]⟩) := by kernel_rfl
@[simp, go_sem] theorem PZ242_63 : PZ242[63]? = some (.string ⟨#[]⟩) := by kernel_rfl
@[simp, go_sem] theorem PZ242_64 : PZ242[64]? = some (.string ⟨#[]⟩) := by kernel_rfl
@[simp, go_sem] theorem PZ242_65 : PZ242[65]? = some (.int .u8 0) := by kernel_rfl
@[simp, go_sem] theorem PZ242_66 : PZ242[66]? = some (.int .u32 0) := by kernel_rfl
@[simp, go_sem] theorem PZ242_67 : PZ242[67]? = some (.string ⟨#[]⟩) := by kernel_rfl
@[simp, go_sem] theorem PZ242_68 : PZ242[68]? = some (.string ⟨#[]⟩) := by kernel_rfl
@[simp, go_sem] theorem PZ242_69 : PZ242[69]? = some (.string ⟨#[]⟩) := by kernel_rfl
@[simp, go_sem] theorem PZ242_70 : PZ242[70]? = some (.int .i32 0) := by kernel_rfl
@[simp, go_sem] theorem PZ242_71 : PZ242[71]? = some (.int .i32 0) := by kernel_rfl
@[simp, go_sem] theorem PZ242_72 : PZ242[72]? = some (.int .i32 0) := by kernel_rfl
@[simp, go_sem] theorem PZ242_73 : PZ242[73]? = some (.int .i32 0) := by kernel_rfl
@[simp, go_sem] theorem PZ242_74 : PZ242[74]? = some (.bool false) := by kernel_rfl
@[simp, go_sem] theorem PZ242_75 : PZ242[75]? = some (.bool false) := by kernel_rfl
@[simp, go_sem] theorem PZ242_76 : PZ242[76]? = some (.bool false) := by kernel_rfl
@[simp, go_sem] theorem PZ242_77 : PZ242[77]? = some (.pointer none) := by kernel_rfl
@[simp, go_sem] theorem PZ242_78 : PZ242[78]? = some (.pointer none) := by kernel_rfl
@[simp, go_sem] theorem PZ242_79 : PZ242[79]? = some (.int .i32 0) := by kernel_rfl
@[simp, go_sem] theorem PZ242_80 : PZ242[80]? = some (.int .i32 0) := by kernel_rfl
@[simp, go_sem] theorem PZ242_81 : PZ242[81]? = some (.int .i32 0) := by kernel_rfl
@[simp, go_sem] theorem PZ242_82 : PZ242[82]? = some (.int .u8 0) := by kernel_rfl
@[simp, go_sem] theorem PZ242_83 : PZ242[83]? = some (.int .u8 0) := by kernel_rfl
@[simp, go_sem] theorem PZ242_84 : PZ242[84]? = some (.bool false) := by kernel_rfl
@[simp, go_sem] theorem PZ242_85 : PZ242[85]? = some (.bool false) := by kernel_rfl
@[simp, go_sem] theorem PZ242_86 : PZ242[86]? = some (.bool false) := by kernel_rfl
@[simp, go_sem] theorem PZ242_87 : PZ242[87]? = some (.bool false) := by kernel_rfl
@[simp, go_sem] theorem PZ242_88 : PZ242[88]? = some (.bool false) := by kernel_rfl
@[simp, go_sem] theorem PZ242_89 : PZ242[89]? = some (.bool false) := by kernel_rfl
@[simp, go_sem] theorem PZ242_90 : PZ242[90]? = some (.bool false) := by kernel_rfl
@[simp, go_sem] theorem PZ242_91 : PZ242[91]? = some (.bool false) := by kernel_rfl
@[simp, go_sem] theorem PZ242_92 : PZ242[92]? = some (.pointer none) := by kernel_rfl
@[simp, go_sem] theorem PZ242_93 : PZ242[93]? = some (.pointer none) := by kernel_rfl
@[simp, go_sem] theorem PZ242_94 : PZ242[94]? = some (.pointer none) := by kernel_rfl
@[simp, go_sem] theorem PZ242_95 : PZ242[95]? = some (.bool false) := by kernel_rfl
@[simp, go_sem] theorem PZ242_96 : PZ242[96]? = some (.bool false) := by kernel_rfl
@[simp, go_sem] theorem PZ242_97 : PZ242[97]? = some (.pointer none) := by kernel_rfl
@[simp, go_sem] theorem PZ242_98 : PZ242[98]? = some (.bool false) := by kernel_rfl
@[simp, go_sem] theorem PZ242_99 : PZ242[99]? = some (.bool false) := by kernel_rfl
@[simp, go_sem] theorem PZ242_100 : PZ242[100]? = some (.bool false) := by kernel_rfl
@[simp, go_sem] theorem PZ242_101 : PZ242[101]? = some (.bool false) := by kernel_rfl
@[simp, go_sem] theorem PZ242_102 : PZ242[102]? = some (.bool false) := by kernel_rfl
@[simp, go_sem] theorem PZ242_103 : PZ242[103]? = some (.slice none 0 0) := by kernel_rfl
@[simp, go_sem] theorem PZ242_104 : PZ242[104]? = some (.pointer none) := by kernel_rfl
@[simp, go_sem] theorem PZ242_105 : PZ242[105]? = some (.pointer none) := by kernel_rfl
@[simp, go_sem] theorem PZ242_106 : PZ242[106]? = some (.slice none 0 0) := by kernel_rfl
@[simp, go_sem] theorem PZ242_107 : PZ242[107]? = some (.nilFunc) := by kernel_rfl
@[simp, go_sem] theorem PZ242_108 : PZ242[108]? = some (.slice none 0 0) := by kernel_rfl
@[simp, go_sem] theorem PZ242_109 : PZ242[109]? = some (.slice none 0 0) := by kernel_rfl
@[simp, go_sem] theorem PZ242_110 : PZ242[110]? = some (.map none) := by kernel_rfl
@[simp, go_sem] theorem PZ242_111 : PZ242[111]? = some (.map none) := by kernel_rfl
@[simp, go_sem] theorem PZ242_112 : PZ242[112]? = some (.map none) := by kernel_rfl
@[simp, go_sem] theorem PZ242_113 : PZ242[113]? = some (.map none) := by kernel_rfl
@[simp, go_sem] theorem PZ242_114 : PZ242[114]? = some (.map none) := by kernel_rfl
@[simp, go_sem] theorem PZ242_115 : PZ242[115]? = some (.map none) := by kernel_rfl
@[simp, go_sem] theorem PZ242_116 : PZ242[116]? = some (.slice none 0 0) := by kernel_rfl
@[simp, go_sem] theorem PZ242_117 : PZ242[117]? = some (.map none) := by kernel_rfl
@[simp, go_sem] theorem PZ242_118 : PZ242[118]? = some (.slice none 0 0) := by kernel_rfl
@[simp, go_sem] theorem PZ242_119 : PZ242[119]? = some (.int .u8 0) := by kernel_rfl
@[simp, go_sem] theorem PZ242_120 : PZ242[120]? = some (.int .u8 0) := by kernel_rfl
@[simp, go_sem] theorem PZ242_121 : PZ242[121]? = some (.int .u8 0) := by kernel_rfl
@[simp, go_sem] theorem PZ242_122 : PZ242[122]? = some (.int .u8 0) := by kernel_rfl
@[simp, go_sem] theorem PZ242_123 : PZ242[123]? = some (.int .u8 0) := by kernel_rfl
@[simp, go_sem] theorem PZ242_124 : PZ242[124]? = some (.int .u8 0) := by kernel_rfl
@[simp, go_sem] theorem PZ242_125 : PZ242[125]? = some (.int .u8 0) := by kernel_rfl
@[simp, go_sem] theorem PZ242_126 : PZ242[126]? = some (.int .u8 0) := by kernel_rfl
@[simp, go_sem] theorem PZ242_127 : PZ242[127]? = some (.int .u8 0) := by kernel_rfl
@[simp, go_sem] theorem PZ242_128 : PZ242[128]? = some (.int .u8 0) := by kernel_rfl
@[simp, go_sem] theorem PZ242_129 : PZ242[129]? = some (.int .u8 0) := by kernel_rfl
@[simp, go_sem] theorem PZ242_130 : PZ242[130]? = some (.int .u8 0) := by kernel_rfl
@[simp, go_sem] theorem PZ242_131 : PZ242[131]? = some (.int .u8 0) := by kernel_rfl
@[simp, go_sem] theorem PZ242_132 : PZ242[132]? = some (.int .u8 0) := by kernel_rfl
@[simp, go_sem] theorem PZ242_133 : PZ242[133]? = some (.int .u8 0) := by kernel_rfl
@[simp, go_sem] theorem PZ242_134 : PZ242[134]? = some (.int .u8 0) := by kernel_rfl
@[simp, go_sem] theorem PZ242_135 : PZ242[135]? = some (.int .u8 0) := by kernel_rfl
@[simp, go_sem] theorem PZ242_136 : PZ242[136]? = some (.int .u8 0) := by kernel_rfl
@[simp, go_sem] theorem PZ242_137 : PZ242[137]? = some (.int .u8 0) := by kernel_rfl
@[simp, go_sem] theorem PZ242_138 : PZ242[138]? = some (.int .u8 0) := by kernel_rfl
@[simp, go_sem] theorem PZ242_139 : PZ242[139]? = some (.int .u8 0) := by kernel_rfl
@[simp, go_sem] theorem PZ242_140 : PZ242[140]? = some (.int .u8 0) := by kernel_rfl
@[simp, go_sem] theorem PZ242_141 : PZ242[141]? = some (.int .u8 0) := by kernel_rfl
@[simp, go_sem] theorem PZ242_142 : PZ242[142]? = some (.int .u8 0) := by kernel_rfl
@[simp, go_sem] theorem PZ242_143 : PZ242[143]? = some (.int .u8 0) := by kernel_rfl
@[simp, go_sem] theorem PZ242_144 : PZ242[144]? = some (.int .u8 0) := by kernel_rfl
@[simp, go_sem] theorem PZ242_145 : PZ242[145]? = some (.int .u8 0) := by kernel_rfl
@[simp, go_sem] theorem PZ242_146 : PZ242[146]? = some (.int .u8 0) := by kernel_rfl
@[simp, go_sem] theorem PZ242_147 : PZ242[147]? = some (.int .u8 0) := by kernel_rfl
@[simp, go_sem] theorem PZ242_148 : PZ242[148]? = some (.int .u8 0) := by kernel_rfl
@[simp, go_sem] theorem PZ242_149 : PZ242[149]? = some (.int .u8 0) := by kernel_rfl
@[simp, go_sem] theorem PZ242_150 : PZ242[150]? = some (.int .u8 0) := by kernel_rfl
@[simp, go_sem] theorem PZ242_151 : PZ242[151]? = some (.map none) := by kernel_rfl
@[simp, go_sem] theorem PZ242_152 : PZ242[152]? = some (.map none) := by kernel_rfl
@[simp, go_sem] theorem PZ242_153 : PZ242[153]? = some (.map none) := by kernel_rfl
@[simp, go_sem] theorem PZ242_154 : PZ242[154]? = some (.slice none 0 0) := by kernel_rfl
@[simp, go_sem] theorem PZ242_155 : PZ242[155]? = some (.map none) := by kernel_rfl
@[simp, go_sem] theorem PZ242_156 : PZ242[156]? = some (.map none) := by kernel_rfl
@[simp, go_sem] theorem PZ242_157 : PZ242[157]? = some (.map none) := by kernel_rfl
@[simp, go_sem] theorem PZ242_158 : PZ242[158]? = some (.map none) := by kernel_rfl
@[simp, go_sem] theorem PZ242_159 : PZ242[159]? = some (.nilIface) := by kernel_rfl
@[simp, go_sem] theorem PZ242_160 : PZ242[160]? = some (.nilIface) := by kernel_rfl
@[simp, go_sem] theorem PZ242_161 : PZ242[161]? = some (.map none) := by kernel_rfl
@[simp, go_sem] theorem PZ242_162 : PZ242[162]? = some (.map none) := by kernel_rfl
@[simp, go_sem] theorem PZ242_163 : PZ242[163]? = some (.map none) := by kernel_rfl
@[simp, go_sem] theorem PZ242_164 : PZ242[164]? = some (.map none) := by kernel_rfl
@[simp, go_sem] theorem PZ242_165 : PZ242[165]? = some (.map none) := by kernel_rfl
@[simp, go_sem] theorem PZ242_166 : PZ242[166]? = some (.nilIface) := by kernel_rfl
@[simp, go_sem] theorem PZ242_167 : PZ242[167]? = some (.pointer none) := by kernel_rfl
@[simp, go_sem] theorem PZ242_168 : PZ242[168]? = some (.pointer none) := by kernel_rfl
@[simp, go_sem] theorem PZ242_169 : PZ242[169]? = some (.slice none 0 0) := by kernel_rfl
@[simp, go_sem] theorem PZ242_170 : PZ242[170]? = some (.slice none 0 0) := by kernel_rfl
@[simp, go_sem] theorem PZ242_171 : PZ242[171]? = some (.map none) := by kernel_rfl
@[simp, go_sem] theorem PZ242_172 : PZ242[172]? = some (.map none) := by kernel_rfl
@[simp, go_sem] theorem PZ242_173 : PZ242[173]? = some (.map none) := by kernel_rfl
@[simp, go_sem] theorem PZ242_174 : PZ242[174]? = some (.map none) := by kernel_rfl
@[simp, go_sem] theorem PZ242_175 : PZ242[175]? = some (.map none) := by kernel_rfl
@[simp, go_sem] theorem PZ242_176 : PZ242[176]? = some (.map none) := by kernel_rfl
@[simp, go_sem] theorem PZ242_177 : PZ242[177]? = some (.slice none 0 0) := by kernel_rfl
@[simp, go_sem] theorem PZ242_178 : PZ242[178]? = some (.string ⟨#[]⟩) := by kernel_rfl
@[simp, go_sem] theorem PZ242_179 : PZ242[179]? = some (.nilIface) := by kernel_rfl
@[simp, go_sem] theorem PZ242_180 : PZ242[180]? = some (.nilIface) := by kernel_rfl
@[simp, go_sem] theorem PZ242_181 : PZ242[181]? = some (.nilIface) := by kernel_rfl
@[simp, go_sem] theorem PZ242_182 : PZ242[182]? = some (.nilIface) := by kernel_rfl
@[simp, go_sem] theorem PZ242_183 : PZ242[183]? = some (.nilIface) := by kernel_rfl
@[simp, go_sem] theorem PZ242_184 : PZ242[184]? = some (.nilIface) := by kernel_rfl
@[simp, go_sem] theorem PZ242_185 : PZ242[185]? = some (.nilIface) := by kernel_rfl
@[simp, go_sem] theorem PZ242_186 : PZ242[186]? = some (.nilIface) := by kernel_rfl
@[simp, go_sem] theorem PZ242_187 : PZ242[187]? = some (.pointer none) := by kernel_rfl
@[simp, go_sem] theorem PZ242_188 : PZ242[188]? = some (.nilIface) := by kernel_rfl
@[simp, go_sem] theorem PZ242_189 : PZ242[189]? = some (.int .i32 0) := by kernel_rfl
@[simp, go_sem] theorem PZ242_190 : PZ242[190]? = some (.map none) := by kernel_rfl
@[simp, go_sem] theorem PZ242_191 : PZ242[191]? = some (.nilIface) := by kernel_rfl
@[simp, go_sem] theorem PZ242_192 : PZ242[192]? = some (.nilIface) := by kernel_rfl
@[simp, go_sem] theorem PZ242_193 : PZ242[193]? = some (.int .i32 0) := by kernel_rfl
@[simp, go_sem] theorem PZ242_194 : PZ242[194]? = some (.bool false) := by kernel_rfl
@[simp, go_sem] theorem PZ242_195 : PZ242[195]? = some (.bool false) := by kernel_rfl
@[simp, go_sem] theorem PZ242_196 : PZ242[196]? = some (.slice none 0 0) := by kernel_rfl
@[simp, go_sem] theorem PZ242_197 : PZ242[197]? = some (.map none) := by kernel_rfl
@[simp, go_sem] theorem PZ242_198 : PZ242[198]? = some (.slice none 0 0) := by kernel_rfl
@[simp, go_sem] theorem PZ242_199 : PZ242[199]? = some (.slice none 0 0) := by kernel_rfl
@[simp, go_sem] theorem PZ242_200 : PZ242[200]? = some (.slice none 0 0) := by kernel_rfl
@[simp, go_sem] theorem PZ242_201 : PZ242[201]? = some (.slice none 0 0) := by kernel_rfl
@[simp, go_sem] theorem PZ242_202 : PZ242[202]? = some (.slice none 0 0) := by kernel_rfl
@[simp, go_sem] theorem PZ242_203 : PZ242[203]? = some (.slice none 0 0) := by kernel_rfl
@[simp, go_sem] theorem PZ242_204 : PZ242[204]? = some (.string ⟨#[]⟩) := by kernel_rfl
@[simp, go_sem] theorem PZ242_205 : PZ242[205]? = some (.int .u32 0) := by kernel_rfl
@[simp, go_sem] theorem PZ242_206 : PZ242[206]? = some (.nilFunc) := by kernel_rfl
@[simp, go_sem] theorem PZ242_207 : PZ242[207]? = some (.nilFunc) := by kernel_rfl
@[simp, go_sem] theorem PZ242_208 : PZ242[208]? = some (.nilFunc) := by kernel_rfl
@[simp, go_sem] theorem PZ242_209 : PZ242[209]? = some (.nilFunc) := by kernel_rfl
@[simp, go_sem] theorem PZ242_210 : PZ242[210]? = some (.int .i8 0) := by kernel_rfl
@[simp, go_sem] theorem PZ242_211 : PZ242[211]? = some (.map none) := by kernel_rfl
@[simp, go_sem] theorem PZ242_212 : PZ242[212]? = some (.string ⟨#[]⟩) := by kernel_rfl
@[simp, go_sem] theorem PZ242_213 : PZ242[213]? = some (.string ⟨#[]⟩) := by kernel_rfl
@[simp, go_sem] theorem PZ242_214 : PZ242[214]? = some (.string ⟨#[]⟩) := by kernel_rfl
@[simp, go_sem] theorem PZ242_215 : PZ242[215]? = some (.string ⟨#[]⟩) := by kernel_rfl
@[simp, go_sem] theorem PZ242_216 : PZ242[216]? = some (.string ⟨#[]⟩) := by kernel_rfl
@[simp, go_sem] theorem PZ242_217 : PZ242[217]? = some (.string ⟨#[]⟩) := by kernel_rfl
@[simp, go_sem] theorem PZ242_218 : PZ242[218]? = some (.string ⟨#[]⟩) := by kernel_rfl
@[simp, go_sem] theorem PZ242_219 : PZ242[219]? = some (.string ⟨#[]⟩) := by kernel_rfl
@[simp, go_sem] theorem PZ242_220 : PZ242[220]? = some (.int .u8 0) := by kernel_rfl
@[simp, go_sem] theorem PZ242_221 : PZ242[221]? = some (.int .u32 0) := by kernel_rfl
@[simp, go_sem] theorem PZ242_222 : PZ242[222]? = some (.string ⟨#[]⟩) := by kernel_rfl
@[simp, go_sem] theorem PZ242_223 : PZ242[223]? = some (.int .i32 0) := by kernel_rfl
@[simp, go_sem] theorem PZ242_224 : PZ242[224]? = some (.int .i32 0) := by kernel_rfl
@[simp, go_sem] theorem PZ242_225 : PZ242[225]? = some (.string ⟨#[]⟩) := by kernel_rfl
@[simp, go_sem] theorem PZ242_226 : PZ242[226]? = some (.int .i32 0) := by kernel_rfl
@[simp, go_sem] theorem PZ242_227 : PZ242[227]? = some (.int .i32 0) := by kernel_rfl
@[simp, go_sem] theorem PZ242_228 : PZ242[228]? = some (.string ⟨#[]⟩) := by kernel_rfl
@[simp, go_sem] theorem PZ242_229 : PZ242[229]? = some (.int .i32 0) := by kernel_rfl
@[simp, go_sem] theorem PZ242_230 : PZ242[230]? = some (.int .i32 0) := by kernel_rfl
@[simp, go_sem] theorem PZ242_231 : PZ242[231]? = some (.string ⟨#[]⟩) := by kernel_rfl
@[simp, go_sem] theorem PZ242_232 : PZ242[232]? = some (.int .i32 0) := by kernel_rfl
@[simp, go_sem] theorem PZ242_233 : PZ242[233]? = some (.int .i32 0) := by kernel_rfl
@[simp, go_sem] theorem PZ242_234 : PZ242[234]? = some (.string ⟨#[]⟩) := by kernel_rfl
@[simp, go_sem] theorem PZ242_235 : PZ242[235]? = some (.int .i32 0) := by kernel_rfl
@[simp, go_sem] theorem PZ242_236 : PZ242[236]? = some (.int .i32 0) := by kernel_rfl
@[simp, go_sem] theorem PZ242_237 : PZ242[237]? = some (.string ⟨#[]⟩) := by kernel_rfl
@[simp, go_sem] theorem PZ242_238 : PZ242[238]? = some (.slice none 0 0) := by kernel_rfl
@[simp, go_sem] theorem PZ242_239 : PZ242[239]? = some (.string ⟨#[]⟩) := by kernel_rfl
@[simp, go_sem] theorem PZ242_240 : PZ242[240]? = some (.string ⟨#[]⟩) := by kernel_rfl
@[simp, go_sem] theorem PZ242_241 : PZ242[241]? = some (.string ⟨#[]⟩) := by kernel_rfl
@[simp, go_sem] theorem PZ242_242 : PZ242[242]? = some (.string ⟨#[]⟩) := by kernel_rfl
@[simp, go_sem] theorem PZ242_243 : PZ242[243]? = some (.string ⟨#[]⟩) := by kernel_rfl
@[simp, go_sem] theorem PZ242_244 : PZ242[244]? = some (.int .i32 0) := by kernel_rfl
@[simp, go_sem] theorem PZ242_245 : PZ242[245]? = some (.int .i32 0) := by kernel_rfl
@[simp, go_sem] theorem PZ242_246 : PZ242[246]? = some (.int .i32 0) := by kernel_rfl
@[simp, go_sem] theorem PZ242_247 : PZ242[247]? = some (.int .i32 0) := by kernel_rfl
@[simp, go_sem] theorem PZ242_248 : PZ242[248]? = some (.bool false) := by kernel_rfl
@[simp, go_sem] theorem PZ242_249 : PZ242[249]? = some (.bool false) := by kernel_rfl
@[simp, go_sem] theorem PZ242_250 : PZ242[250]? = some (.bool false) := by kernel_rfl
@[simp, go_sem] theorem PZ242_251 : PZ242[251]? = some (.int .i64 0) := by kernel_rfl
@[simp, go_sem] theorem PZ242_252 : PZ242[252]? = some (.float .f64 0) := by kernel_rfl
@[simp, go_sem] theorem PZ242_253 : PZ242[253]? = some (.int .i64 0) := by kernel_rfl
@[simp, go_sem] theorem PZ242_254 : PZ242[254]? = some (.int .i64 0) := by kernel_rfl
@[simp, go_sem] theorem PZ242_255 : PZ242[255]? = some (.int .i64 0) := by kernel_rfl
@[simp, go_sem] theorem PZ242_256 : PZ242[256]? = some (.int .i64 0) := by kernel_rfl
@[simp, go_sem] theorem PZ242_257 : PZ242[257]? = some (.int .i64 0) := by kernel_rfl
@[simp, go_sem] theorem PZ242_258 : PZ242[258]? = some (.int .i32 0) := by kernel_rfl
@[simp, go_sem] theorem PZ242_259 : PZ242[259]? = some (.int .i32 0) := by kernel_rfl
@[simp, go_sem] theorem PZ242_260 : PZ242[260]? = some (.int .i32 0) := by kernel_rfl
@[simp, go_sem] theorem PZ242_261 : PZ242[261]? = some (.int .i32 0) := by kernel_rfl
@[simp, go_sem] theorem PZ242_262 : PZ242[262]? = some (.int .i32 0) := by kernel_rfl
@[simp, go_sem] theorem PZ242_263 : PZ242[263]? = some (.int .i32 0) := by kernel_rfl
@[simp, go_sem] theorem PZ242_264 : PZ242[264]? = some (.int .i32 0) := by kernel_rfl
@[simp, go_sem] theorem PZ242_265 : PZ242[265]? = some (.int .i32 0) := by kernel_rfl
@[simp, go_sem] theorem PZ242_266 : PZ242[266]? = some (.int .i32 0) := by kernel_rfl
@[simp, go_sem] theorem PZ242_267 : PZ242[267]? = some (.int .i32 0) := by kernel_rfl
@[simp, go_sem] theorem PZ242_268 : PZ242[268]? = some (.int .i32 0) := by kernel_rfl
@[simp, go_sem] theorem PZ242_269 : PZ242[269]? = some (.int .u8 0) := by kernel_rfl
@[simp, go_sem] theorem PZ242_270 : PZ242[270]? = some (.int .u8 0) := by kernel_rfl
@[simp, go_sem] theorem PZ242_271 : PZ242[271]? = some (.int .u8 0) := by kernel_rfl
@[simp, go_sem] theorem PZ242_272 : PZ242[272]? = some (.int .u8 0) := by kernel_rfl
@[simp, go_sem] theorem PZ242_273 : PZ242[273]? = some (.int .u8 0) := by kernel_rfl
@[simp, go_sem] theorem PZ242_274 : PZ242[274]? = some (.int .u8 0) := by kernel_rfl
@[simp, go_sem] theorem PZ242_275 : PZ242[275]? = some (.int .u8 0) := by kernel_rfl
@[simp, go_sem] theorem PZ242_276 : PZ242[276]? = some (.int .u8 0) := by kernel_rfl
@[simp, go_sem] theorem PZ242_277 : PZ242[277]? = some (.bool false) := by kernel_rfl
@[simp, go_sem] theorem PZ242_278 : PZ242[278]? = some (.bool false) := by kernel_rfl
@[simp, go_sem] theorem PZ242_279 : PZ242[279]? = some (.bool false) := by kernel_rfl
@[simp, go_sem] theorem PZ242_280 : PZ242[280]? = some (.int .u8 0) := by kernel_rfl
@[simp, go_sem] theorem PZ242_281 : PZ242[281]? = some (.bool false) := by kernel_rfl
@[simp, go_sem] theorem PZ242_282 : PZ242[282]? = some (.bool false) := by kernel_rfl
@[simp, go_sem] theorem PZ242_283 : PZ242[283]? = some (.bool false) := by kernel_rfl
@[simp, go_sem] theorem PZ242_284 : PZ242[284]? = some (.bool false) := by kernel_rfl
@[simp, go_sem] theorem PZ242_285 : PZ242[285]? = some (.bool false) := by kernel_rfl
@[simp, go_sem] theorem PZ242_286 : PZ242[286]? = some (.int .i64 0) := by kernel_rfl
@[simp, go_sem] theorem PZ242_287 : PZ242[287]? = some (.int .i64 0) := by kernel_rfl
@[simp, go_sem] theorem PZ242_288 : PZ242[288]? = some (.int .i64 0) := by kernel_rfl
@[simp, go_sem] theorem PZ242_289 : PZ242[289]? = some (.int .i64 0) := by kernel_rfl
@[simp, go_sem] theorem PZ242_290 : PZ242[290]? = some (.int .i64 0) := by kernel_rfl
@[simp, go_sem] theorem PZ242_291 : PZ242[291]? = some (.int .i64 0) := by kernel_rfl
@[simp, go_sem] theorem PZ242_292 : PZ242[292]? = some (.int .u32 0) := by kernel_rfl
@[simp, go_sem] theorem PZ242_293 : PZ242[293]? = some (.int .u32 0) := by kernel_rfl
@[simp, go_sem] theorem PZ242_294 : PZ242[294]? = some (.int .u32 0) := by kernel_rfl
@[simp, go_sem] theorem PZ242_295 : PZ242[295]? = some (.int .u32 0) := by kernel_rfl
@[simp, go_sem] theorem PZ242_296 : PZ242[296]? = some (.int .u32 0) := by kernel_rfl
@[simp, go_sem] theorem PZ242_297 : PZ242[297]? = some (.int .u32 0) := by kernel_rfl
@[simp, go_sem] theorem PZ242_298 : PZ242[298]? = some (.int .u32 0) := by kernel_rfl
@[simp, go_sem] theorem PZ242_299 : PZ242[299]? = some (.int .u32 0) := by kernel_rfl
@[simp, go_sem] theorem PZ242_300 : PZ242[300]? = some (.int .u32 0) := by kernel_rfl
@[simp, go_sem] theorem PZ242_301 : PZ242[301]? = some (.int .u32 0) := by kernel_rfl
@[simp, go_sem] theorem PZ242_302 : PZ242[302]? = some (.int .u32 0) := by kernel_rfl
@[simp, go_sem] theorem PZ242_303 : PZ242[303]? = some (.int .u32 0) := by kernel_rfl
@[simp, go_sem] theorem PZ242_304 : PZ242[304]? = some (.int .u32 0) := by kernel_rfl
@[simp, go_sem] theorem PZ242_305 : PZ242[305]? = some (.int .u32 0) := by kernel_rfl
@[simp, go_sem] theorem PZ242_306 : PZ242[306]? = some (.int .u32 0) := by kernel_rfl
@[simp, go_sem] theorem PZ242_307 : PZ242[307]? = some (.int .u32 0) := by kernel_rfl
@[simp, go_sem] theorem PZ242_308 : PZ242[308]? = some (.map none) := by kernel_rfl
@[simp, go_sem] theorem PZ242_309 : PZ242[309]? = some (.map none) := by kernel_rfl
@[simp, go_sem] theorem PZ242_310 : PZ242[310]? = some (.int .u32 0) := by kernel_rfl
@[simp, go_sem] theorem PZ242_311 : PZ242[311]? = some (.int .u32 0) := by kernel_rfl
@[simp, go_sem] theorem PZ242_312 : PZ242[312]? = some (.int .u32 0) := by kernel_rfl
@[simp, go_sem] theorem PZ242_313 : PZ242[313]? = some (.int .u32 0) := by kernel_rfl
@[simp, go_sem] theorem PZ242_314 : PZ242[314]? = some (.int .i32 0) := by kernel_rfl
@[simp, go_sem] theorem PZ242_315 : PZ242[315]? = some (.int .i32 0) := by kernel_rfl
@[simp, go_sem] theorem PZ242_316 : PZ242[316]? = some (.int .i32 0) := by kernel_rfl
@[simp, go_sem] theorem PZ242_317 : PZ242[317]? = some (.int .i32 0) := by kernel_rfl
@[simp, go_sem] theorem PZ242_318 : PZ242[318]? = some (.int .i32 0) := by kernel_rfl
@[simp, go_sem] theorem PZ242_319 : PZ242[319]? = some (.int .i32 0) := by kernel_rfl
@[simp, go_sem] theorem PZ242_320 : PZ242[320]? = some (.int .i32 0) := by kernel_rfl
@[simp, go_sem] theorem PZ242_321 : PZ242[321]? = some (.int .i32 0) := by kernel_rfl
@[simp, go_sem] theorem PZ242_322 : PZ242[322]? = some (.int .i32 0) := by kernel_rfl
@[simp, go_sem] theorem PZ242_323 : PZ242[323]? = some (.int .i32 0) := by kernel_rfl
@[simp, go_sem] theorem PZ242_324 : PZ242[324]? = some (.int .i32 0) := by kernel_rfl
@[simp, go_sem] theorem PZ242_325 : PZ242[325]? = some (.int .i32 0) := by kernel_rfl
@[simp, go_sem] theorem PZ242_326 : PZ242[326]? = some (.int .i32 0) := by kernel_rfl
@[simp, go_sem] theorem PZ242_327 : PZ242[327]? = some (.int .i32 0) := by kernel_rfl
@[simp, go_sem] theorem PZ242_328 : PZ242[328]? = some (.int .i32 0) := by kernel_rfl
@[simp, go_sem] theorem PZ242_329 : PZ242[329]? = some (.int .i32 0) := by kernel_rfl
@[simp, go_sem] theorem PZ242_330 : PZ242[330]? = some (.int .i32 0) := by kernel_rfl
@[simp, go_sem] theorem PZ242_331 : PZ242[331]? = some (.bool false) := by kernel_rfl
@[simp, go_sem] theorem PZ242_332 : PZ242[332]? = some (.bool false) := by kernel_rfl
@[simp, go_sem] theorem PZ242_333 : PZ242[333]? = some (.bool false) := by kernel_rfl
@[simp, go_sem] theorem PZ242_334 : PZ242[334]? = some (.bool false) := by kernel_rfl
@[simp, go_sem] theorem PZ242_335 : PZ242[335]? = some (.bool false) := by kernel_rfl
@[simp, go_sem] theorem PZ242_336 : PZ242[336]? = some (.bool false) := by kernel_rfl
@[simp, go_sem] theorem PZ242_337 : PZ242[337]? = some (.bool false) := by kernel_rfl
@[simp, go_sem] theorem PZ242_338 : PZ242[338]? = some (.bool false) := by kernel_rfl
@[simp, go_sem] theorem PZ242_339 : PZ242[339]? = some (.int .i64 0) := by kernel_rfl
@[simp, go_sem] theorem PZ242_340 : PZ242[340]? = some (.int .i32 0) := by kernel_rfl
@[simp, go_sem] theorem PZ242_341 : PZ242[341]? = some (.bool false) := by kernel_rfl
@[simp, go_sem] theorem PZ242_342 : PZ242[342]? = some (.bool false) := by kernel_rfl
@[simp, go_sem] theorem PZ242_343 : PZ242[343]? = some (.bool false) := by kernel_rfl
@[simp, go_sem] theorem PZ242_344 : PZ242[344]? = some (.bool false) := by kernel_rfl
@[simp, go_sem] theorem PZ242_345 : PZ242[345]? = some (.bool false) := by kernel_rfl
@[simp, go_sem] theorem PZ242_346 : PZ242[346]? = some (.bool false) := by kernel_rfl
@[simp, go_sem] theorem PZ242_347 : PZ242[347]? = some (.bool false) := by kernel_rfl
@[simp, go_sem] theorem PZ242_348 : PZ242[348]? = some (.bool false) := by kernel_rfl
@[simp, go_sem] theorem PZ242_349 : PZ242[349]? = some (.bool false) := by kernel_rfl
@[simp, go_sem] theorem PZ242_350 : PZ242[350]? = some (.bool false) := by kernel_rfl
@[simp, go_sem] theorem PZ242_351 : PZ242[351]? = some (.bool false) := by kernel_rfl
@[simp, go_sem] theorem PZ242_352 : PZ242[352]? = some (.bool false) := by kernel_rfl
@[go_sem ↓] theorem fa242_0 (b o : Nat) (w : World) : (Instr.fieldAt 242 (.pointer (some ⟨b, o, none⟩)) 0).run Try.prog w = .ok (.pointer (some ⟨b, o, none⟩)) w := by kernel_rfl
@[go_sem ↓] theorem fa242_1 (b o : Nat) (w : World) : (Instr.fieldAt 242 (.pointer (some ⟨b, o, none⟩)) 1).run Try.prog w = .ok (.pointer (some ⟨b, o + 51, none⟩)) w := by kernel_rfl
@[go_sem ↓] theorem fa242_2 (b o : Nat) (w : World) : (Instr.fieldAt 242 (.pointer (some ⟨b, o, none⟩)) 2).run Try.prog w = .ok (.pointer (some ⟨b, o + 57, none⟩)) w := by kernel_rfl
@[go_sem ↓] theorem fa242_3 (b o : Nat) (w : World) : (Instr.fieldAt 242 (.pointer (some ⟨b, o, none⟩)) 3).run Try.prog w = .ok (.pointer (some ⟨b, o + 67, none⟩)) w := by kernel_rfl
@[go_sem ↓] theorem fa242_4 (b o : Nat) (w : World) : (Instr.fieldAt 242 (.pointer (some ⟨b, o, none⟩)) 4).run Try.prog w = .ok (.pointer (some ⟨b, o + 77, none⟩)) w := by kernel_rfl
@[go_sem ↓] theorem fa242_5 (b o : Nat) (w : World) : (Instr.fieldAt 242 (.pointer (some ⟨b, o, none⟩)) 5).run Try.prog w = .ok (.pointer (some ⟨b, o + 92, none⟩)) w := by kernel_rfl
@[go_sem ↓] theorem fa242_6 (b o : Nat) (w : World) : (Instr.fieldAt 242 (.pointer (some ⟨b, o, none⟩)) 6).run Try.prog w = .ok (.pointer (some ⟨b, o + 103, none⟩)) w := by kernel_rfl
@[go_sem ↓] theorem fa242_7 (b o : Nat) (w : World) : (Instr.fieldAt 242 (.pointer (some ⟨b, o, none⟩)) 7).run Try.prog w = .ok (.pointer (some ⟨b, o + 104, none⟩)) w := by kernel_rfl
@[go_sem ↓] theorem fa242_8 (b o : Nat) (w : World) : (Instr.fieldAt 242 (.pointer (some ⟨b, o, none⟩)) 8).run Try.prog w = .ok (.pointer (some ⟨b, o + 105, none⟩)) w := by kernel_rfl
@[go_sem ↓] theorem fa242_9 (b o : Nat) (w : World) : (Instr.fieldAt 242 (.pointer (some ⟨b, o, none⟩)) 9).run Try.prog w = .ok (.pointer (some ⟨b, o + 106, none⟩)) w := by kernel_rfl
@[go_sem ↓] theorem fa242_10 (b o : Nat) (w : World) : (Instr.fieldAt 242 (.pointer (some ⟨b, o, none⟩)) 10).run Try.prog w = .ok (.pointer (some ⟨b, o + 107, none⟩)) w := by kernel_rfl
@[go_sem ↓] theorem fa242_11 (b o : Nat) (w : World) : (Instr.fieldAt 242 (.pointer (some ⟨b, o, none⟩)) 11).run Try.prog w = .ok (.pointer (some ⟨b, o + 108, none⟩)) w := by kernel_rfl
@[go_sem ↓] theorem fa242_12 (b o : Nat) (w : World) : (Instr.fieldAt 242 (.pointer (some ⟨b, o, none⟩)) 12).run Try.prog w = .ok (.pointer (some ⟨b, o + 109, none⟩)) w := by kernel_rfl
@[go_sem ↓] theorem fa242_13 (b o : Nat) (w : World) : (Instr.fieldAt 242 (.pointer (some ⟨b, o, none⟩)) 13).run Try.prog w = .ok (.pointer (some ⟨b, o + 110, none⟩)) w := by kernel_rfl
@[go_sem ↓] theorem fa242_14 (b o : Nat) (w : World) : (Instr.fieldAt 242 (.pointer (some ⟨b, o, none⟩)) 14).run Try.prog w = .ok (.pointer (some ⟨b, o + 111, none⟩)) w := by kernel_rfl
@[go_sem ↓] theorem fa242_15 (b o : Nat) (w : World) : (Instr.fieldAt 242 (.pointer (some ⟨b, o, none⟩)) 15).run Try.prog w = .ok (.pointer (some ⟨b, o + 112, none⟩)) w := by kernel_rfl
@[go_sem ↓] theorem fa242_16 (b o : Nat) (w : World) : (Instr.fieldAt 242 (.pointer (some ⟨b, o, none⟩)) 16).run Try.prog w = .ok (.pointer (some ⟨b, o + 113, none⟩)) w := by kernel_rfl
@[go_sem ↓] theorem fa242_17 (b o : Nat) (w : World) : (Instr.fieldAt 242 (.pointer (some ⟨b, o, none⟩)) 17).run Try.prog w = .ok (.pointer (some ⟨b, o + 114, none⟩)) w := by kernel_rfl
@[go_sem ↓] theorem fa242_18 (b o : Nat) (w : World) : (Instr.fieldAt 242 (.pointer (some ⟨b, o, none⟩)) 18).run Try.prog w = .ok (.pointer (some ⟨b, o + 115, none⟩)) w := by kernel_rfl
@[go_sem ↓] theorem fa242_19 (b o : Nat) (w : World) : (Instr.fieldAt 242 (.pointer (some ⟨b, o, none⟩)) 19).run Try.prog w = .ok (.pointer (some ⟨b, o + 116, none⟩)) w := by kernel_rfl
@[go_sem ↓] theorem fa242_20 (b o : Nat) (w : World) : (Instr.fieldAt 242 (.pointer (some ⟨b, o, none⟩)) 20).run Try.prog w = .ok (.pointer (some ⟨b, o + 117, none⟩)) w := by kernel_rfl
@[go_sem ↓] theorem fa242_21 (b o : Nat) (w : World) : (Instr.fieldAt 242 (.pointer (some ⟨b, o, none⟩)) 21).run Try.prog w = .ok (.pointer (some ⟨b, o + 118, none⟩)) w := by kernel_rfl
@[go_sem ↓] theorem fa242_22 (b o : Nat) (w : World) : (Instr.fieldAt 242 (.pointer (some ⟨b, o, none⟩)) 22).run Try.prog w = .ok (.pointer (some ⟨b, o + 151, none⟩)) w := by kernel_rfl
@[go_sem ↓] theorem fa242_23 (b o : Nat) (w : World) : (Instr.fieldAt 242 (.pointer (some ⟨b, o, none⟩)) 23).run Try.prog w = .ok (.pointer (some ⟨b, o + 152, none⟩)) w := by kernel_rfl
@[go_sem ↓] theorem fa242_24 (b o : Nat) (w : World) : (Instr.fieldAt 242 (.pointer (some ⟨b, o, none⟩)) 24).run Try.prog w = .ok (.pointer (some ⟨b, o + 153, none⟩)) w := by kernel_rfl
@[go_sem ↓] theorem fa242_25 (b o : Nat) (w : World) : (Instr.fieldAt 242 (.pointer (some ⟨b, o, none⟩)) 25).run Try.prog w = .ok (.pointer (some ⟨b, o + 154, none⟩)) w := by kernel_rfl
@[go_sem ↓] theorem fa242_26 (b o : Nat) (w : World) : (Instr.fieldAt 242 (.pointer (some ⟨b, o, none⟩)) 26).run Try.prog w = .ok (.pointer (some ⟨b, o + 155, none⟩)) w := by kernel_rfl
@[go_sem ↓] theorem fa242_27 (b o : Nat) (w : World) : (Instr.fieldAt 242 (.pointer (some ⟨b, o, none⟩)) 27).run Try.prog w = .ok (.pointer (some ⟨b, o + 156, none⟩)) w := by kernel_rfl
@[go_sem ↓] theorem fa242_28 (b o : Nat) (w : World) : (Instr.fieldAt 242 (.pointer (some ⟨b, o, none⟩)) 28).run Try.prog w = .ok (.pointer (some ⟨b, o + 157, none⟩)) w := by kernel_rfl
@[go_sem ↓] theorem fa242_29 (b o : Nat) (w : World) : (Instr.fieldAt 242 (.pointer (some ⟨b, o, none⟩)) 29).run Try.prog w = .ok (.pointer (some ⟨b, o + 158, none⟩)) w := by kernel_rfl
@[go_sem ↓] theorem fa242_30 (b o : Nat) (w : World) : (Instr.fieldAt 242 (.pointer (some ⟨b, o, none⟩)) 30).run Try.prog w = .ok (.pointer (some ⟨b, o + 159, none⟩)) w := by kernel_rfl
@[go_sem ↓] theorem fa242_31 (b o : Nat) (w : World) : (Instr.fieldAt 242 (.pointer (some ⟨b, o, none⟩)) 31).run Try.prog w = .ok (.pointer (some ⟨b, o + 160, none⟩)) w := by kernel_rfl
@[go_sem ↓] theorem fa242_32 (b o : Nat) (w : World) : (Instr.fieldAt 242 (.pointer (some ⟨b, o, none⟩)) 32).run Try.prog w = .ok (.pointer (some ⟨b, o + 161, none⟩)) w := by kernel_rfl
@[go_sem ↓] theorem fa242_33 (b o : Nat) (w : World) : (Instr.fieldAt 242 (.pointer (some ⟨b, o, none⟩)) 33).run Try.prog w = .ok (.pointer (some ⟨b, o + 162, none⟩)) w := by kernel_rfl
@[go_sem ↓] theorem fa242_34 (b o : Nat) (w : World) : (Instr.fieldAt 242 (.pointer (some ⟨b, o, none⟩)) 34).run Try.prog w = .ok (.pointer (some ⟨b, o + 163, none⟩)) w := by kernel_rfl
@[go_sem ↓] theorem fa242_35 (b o : Nat) (w : World) : (Instr.fieldAt 242 (.pointer (some ⟨b, o, none⟩)) 35).run Try.prog w = .ok (.pointer (some ⟨b, o + 164, none⟩)) w := by kernel_rfl
@[go_sem ↓] theorem fa242_36 (b o : Nat) (w : World) : (Instr.fieldAt 242 (.pointer (some ⟨b, o, none⟩)) 36).run Try.prog w = .ok (.pointer (some ⟨b, o + 165, none⟩)) w := by kernel_rfl
@[go_sem ↓] theorem fa242_37 (b o : Nat) (w : World) : (Instr.fieldAt 242 (.pointer (some ⟨b, o, none⟩)) 37).run Try.prog w = .ok (.pointer (some ⟨b, o + 166, none⟩)) w := by kernel_rfl
@[go_sem ↓] theorem fa242_38 (b o : Nat) (w : World) : (Instr.fieldAt 242 (.pointer (some ⟨b, o, none⟩)) 38).run Try.prog w = .ok (.pointer (some ⟨b, o + 167, none⟩)) w := by kernel_rfl
@[go_sem ↓] theorem fa242_39 (b o : Nat) (w : World) : (Instr.fieldAt 242 (.pointer (some ⟨b, o, none⟩)) 39).run Try.prog w = .ok (.pointer (some ⟨b, o + 168, none⟩)) w := by kernel_rfl
@[go_sem ↓] theorem fa242_40 (b o : Nat) (w : World) : (Instr.fieldAt 242 (.pointer (some ⟨b, o, none⟩)) 40).run Try.prog w = .ok (.pointer (some ⟨b, o + 169, none⟩)) w := by kernel_rfl
@[go_sem ↓] theorem fa242_41 (b o : Nat) (w : World) : (Instr.fieldAt 242 (.pointer (some ⟨b, o, none⟩)) 41).run Try.prog w = .ok (.pointer (some ⟨b, o + 170, none⟩)) w := by kernel_rfl
@[go_sem ↓] theorem fa242_42 (b o : Nat) (w : World) : (Instr.fieldAt 242 (.pointer (some ⟨b, o, none⟩)) 42).run Try.prog w = .ok (.pointer (some ⟨b, o + 171, none⟩)) w := by kernel_rfl
@[go_sem ↓] theorem fa242_43 (b o : Nat) (w : World) : (Instr.fieldAt 242 (.pointer (some ⟨b, o, none⟩)) 43).run Try.prog w = .ok (.pointer (some ⟨b, o + 172, none⟩)) w := by kernel_rfl
@[go_sem ↓] theorem fa242_44 (b o : Nat) (w : World) : (Instr.fieldAt 242 (.pointer (some ⟨b, o, none⟩)) 44).run Try.prog w = .ok (.pointer (some ⟨b, o + 173, none⟩)) w := by kernel_rfl
@[go_sem ↓] theorem fa242_45 (b o : Nat) (w : World) : (Instr.fieldAt 242 (.pointer (some ⟨b, o, none⟩)) 45).run Try.prog w = .ok (.pointer (some ⟨b, o + 174, none⟩)) w := by kernel_rfl
@[go_sem ↓] theorem fa242_46 (b o : Nat) (w : World) : (Instr.fieldAt 242 (.pointer (some ⟨b, o, none⟩)) 46).run Try.prog w = .ok (.pointer (some ⟨b, o + 175, none⟩)) w := by kernel_rfl
@[go_sem ↓] theorem fa242_47 (b o : Nat) (w : World) : (Instr.fieldAt 242 (.pointer (some ⟨b, o, none⟩)) 47).run Try.prog w = .ok (.pointer (some ⟨b, o + 176, none⟩)) w := by kernel_rfl
@[go_sem ↓] theorem fa242_48 (b o : Nat) (w : World) : (Instr.fieldAt 242 (.pointer (some ⟨b, o, none⟩)) 48).run Try.prog w = .ok (.pointer (some ⟨b, o + 177, none⟩)) w := by kernel_rfl
@[go_sem ↓] theorem fa242_49 (b o : Nat) (w : World) : (Instr.fieldAt 242 (.pointer (some ⟨b, o, none⟩)) 49).run Try.prog w = .ok (.pointer (some ⟨b, o + 178, none⟩)) w := by kernel_rfl
@[go_sem ↓] theorem fa242_50 (b o : Nat) (w : World) : (Instr.fieldAt 242 (.pointer (some ⟨b, o, none⟩)) 50).run Try.prog w = .ok (.pointer (some ⟨b, o + 179, none⟩)) w := by kernel_rfl
@[go_sem ↓] theorem fa242_51 (b o : Nat) (w : World) : (Instr.fieldAt 242 (.pointer (some ⟨b, o, none⟩)) 51).run Try.prog w = .ok (.pointer (some ⟨b, o + 180, none⟩)) w := by kernel_rfl
@[go_sem ↓] theorem fa242_52 (b o : Nat) (w : World) : (Instr.fieldAt 242 (.pointer (some ⟨b, o, none⟩)) 52).run Try.prog w = .ok (.pointer (some ⟨b, o + 181, none⟩)) w := by kernel_rfl
@[go_sem ↓] theorem fa242_53 (b o : Nat) (w : World) : (Instr.fieldAt 242 (.pointer (some ⟨b, o, none⟩)) 53).run Try.prog w = .ok (.pointer (some ⟨b, o + 182, none⟩)) w := by kernel_rfl
@[go_sem ↓] theorem fa242_54 (b o : Nat) (w : World) : (Instr.fieldAt 242 (.pointer (some ⟨b, o, none⟩)) 54).run Try.prog w = .ok (.pointer (some ⟨b, o + 183, none⟩)) w := by kernel_rfl
@[go_sem ↓] theorem fa242_55 (b o : Nat) (w : World) : (Instr.fieldAt 242 (.pointer (some ⟨b, o, none⟩)) 55).run Try.prog w = .ok (.pointer (some ⟨b, o + 184, none⟩)) w := by kernel_rfl
@[go_sem ↓] theorem fa242_56 (b o : Nat) (w : World) : (Instr.fieldAt 242 (.pointer (some ⟨b, o, none⟩)) 56).run Try.prog w = .ok (.pointer (some ⟨b, o + 185, none⟩)) w := by kernel_rfl
@[go_sem ↓] theorem fa242_57 (b o : Nat) (w : World) : (Instr.fieldAt 242 (.pointer (some ⟨b, o, none⟩)) 57).run Try.prog w = .ok (.pointer (some ⟨b, o + 186, none⟩)) w := by kernel_rfl
@[go_sem ↓] theorem fa242_58 (b o : Nat) (w : World) : (Instr.fieldAt 242 (.pointer (some ⟨b, o, none⟩)) 58).run Try.prog w = .ok (.pointer (some ⟨b, o + 187, none⟩)) w := by kernel_rfl
@[go_sem ↓] theorem fa242_59 (b o : Nat) (w : World) : (Instr.fieldAt 242 (.pointer (some ⟨b, o, none⟩)) 59).run Try.prog w = .ok (.pointer (some ⟨b, o + 188, none⟩)) w := by kernel_rfl
@[go_sem ↓] theorem fa242_60 (b o : Nat) (w : World) : (Instr.fieldAt 242 (.pointer (some ⟨b, o, none⟩)) 60).run Try.prog w = .ok (.pointer (some ⟨b, o + 190, none⟩)) w := by kernel_rfl
@[go_sem ↓] theorem fa242_61 (b o : Nat) (w : World) : (Instr.fieldAt 242 (.pointer (some ⟨b, o, none⟩)) 61).run Try.prog w = .ok (.pointer (some ⟨b, o + 191, none⟩)) w := by kernel_rfl
@[go_sem ↓] theorem fa242_62 (b o : Nat) (w : World) : (Instr.fieldAt 242 (.pointer (some ⟨b, o, none⟩)) 62).run Try.prog w = .ok (.pointer (some ⟨b, o + 192, none⟩)) w := by kernel_rfl
@[go_sem ↓] theorem fa242_63 (b o : Nat) (w : World) : (Instr.fieldAt 242 (.pointer (some ⟨b, o, none⟩)) 63).run Try.prog w = .ok (.pointer (some ⟨b, o + 196, none⟩)) w := by kernel_rfl
@[go_sem ↓] theorem fa242_64 (b o : Nat) (w : World) : (Instr.fieldAt 242 (.pointer (some ⟨b, o, none⟩)) 64).run Try.prog w = .ok (.pointer (some ⟨b, o + 197, none⟩)) w := by kernel_rfl
@[go_sem ↓] theorem fa242_65 (b o : Nat) (w : World) : (Instr.fieldAt 242 (.pointer (some ⟨b, o, none⟩)) 65).run Try.prog w = .ok (.pointer (some ⟨b, o + 198, none⟩)) w := by kernel_rfl
@[go_sem ↓] theorem fa242_66 (b o : Nat) (w : World) : (Instr.fieldAt 242 (.pointer (some ⟨b, o, none⟩)) 66).run Try.prog w = .ok (.pointer (some ⟨b, o + 199, none⟩)) w := by kernel_rfl
@[go_sem ↓] theorem fa242_67 (b o : Nat) (w : World) : (Instr.fieldAt 242 (.pointer (some ⟨b, o, none⟩)) 67).run Try.prog w = .ok (.pointer (some ⟨b, o + 200, none⟩)) w := by kernel_rfl
@[go_sem ↓] theorem fa242_68 (b o : Nat) (w : World) : (Instr.fieldAt 242 (.pointer (some ⟨b, o, none⟩)) 68).run Try.prog w = .ok (.pointer (some ⟨b, o + 201, none⟩)) w := by kernel_rfl
@[go_sem ↓] theorem fa242_69 (b o : Nat) (w : World) : (Instr.fieldAt 242 (.pointer (some ⟨b, o, none⟩)) 69).run Try.prog w = .ok (.pointer (some ⟨b, o + 286, none⟩)) w := by kernel_rfl
@[go_sem ↓] theorem fa242_70 (b o : Nat) (w : World) : (Instr.fieldAt 242 (.pointer (some ⟨b, o, none⟩)) 70).run Try.prog w = .ok (.pointer (some ⟨b, o + 287, none⟩)) w := by kernel_rfl
@[go_sem ↓] theorem fa242_71 (b o : Nat) (w : World) : (Instr.fieldAt 242 (.pointer (some ⟨b, o, none⟩)) 71).run Try.prog w = .ok (.pointer (some ⟨b, o + 288, none⟩)) w := by kernel_rfl
@[go_sem ↓] theorem fa242_72 (b o : Nat) (w : World) : (Instr.fieldAt 242 (.pointer (some ⟨b, o, none⟩)) 72).run Try.prog w = .ok (.pointer (some ⟨b, o + 289, none⟩)) w := by kernel_rfl
@[go_sem ↓] theorem fa242_73 (b o : Nat) (w : World) : (Instr.fieldAt 242 (.pointer (some ⟨b, o, none⟩)) 73).run Try.prog w = .ok (.pointer (some ⟨b, o + 290, none⟩)) w := by kernel_rfl
@[go_sem ↓] theorem fa242_74 (b o : Nat) (w : World) : (Instr.fieldAt 242 (.pointer (some ⟨b, o, none⟩)) 74).run Try.prog w = .ok (.pointer (some ⟨b, o + 291, none⟩)) w := by kernel_rfl
@[go_sem ↓] theorem fa242_75 (b o : Nat) (w : World) : (Instr.fieldAt 242 (.pointer (some ⟨b, o, none⟩)) 75).run Try.prog w = .ok (.pointer (some ⟨b, o + 292, none⟩)) w := by kernel_rfl
@[go_sem ↓] theorem fa242_76 (b o : Nat) (w : World) : (Instr.fieldAt 242 (.pointer (some ⟨b, o, none⟩)) 76).run Try.prog w = .ok (.pointer (some ⟨b, o + 294, none⟩)) w := by kernel_rfl
@[go_sem ↓] theorem fa242_77 (b o : Nat) (w : World) : (Instr.fieldAt 242 (.pointer (some ⟨b, o, none⟩)) 77).run Try.prog w = .ok (.pointer (some ⟨b, o + 296, none⟩)) w := by kernel_rfl
@[go_sem ↓] theorem fa242_78 (b o : Nat) (w : World) : (Instr.fieldAt 242 (.pointer (some ⟨b, o, none⟩)) 78).run Try.prog w = .ok (.pointer (some ⟨b, o + 298, none⟩)) w := by kernel_rfl
@[go_sem ↓] theorem fa242_79 (b o : Nat) (w : World) : (Instr.fieldAt 242 (.pointer (some ⟨b, o, none⟩)) 79).run Try.prog w = .ok (.pointer (some ⟨b, o + 300, none⟩)) w := by kernel_rfl
@[go_sem ↓] theorem fa242_80 (b o : Nat) (w : World) : (Instr.fieldAt 242 (.pointer (some ⟨b, o, none⟩)) 80).run Try.prog w = .ok (.pointer (some ⟨b, o + 302, none⟩)) w := by kernel_rfl
@[go_sem ↓] theorem fa242_81 (b o : Nat) (w : World) : (Instr.fieldAt 242 (.pointer (some ⟨b, o, none⟩)) 81).run Try.prog w = .ok (.pointer (some ⟨b, o + 304, none⟩)) w := by kernel_rfl
@[go_sem ↓] theorem fa242_82 (b o : Nat) (w : World) : (Instr.fieldAt 242 (.pointer (some ⟨b, o, none⟩)) 82).run Try.prog w = .ok (.pointer (some ⟨b, o + 306, none⟩)) w := by kernel_rfl
@[go_sem ↓] theorem fa242_83 (b o : Nat) (w : World) : (Instr.fieldAt 242 (.pointer (some ⟨b, o, none⟩)) 83).run Try.prog w = .ok (.pointer (some ⟨b, o + 308, none⟩)) w := by kernel_rfl
@[go_sem ↓] theorem fa242_84 (b o : Nat) (w : World) : (Instr.fieldAt 242 (.pointer (some ⟨b, o, none⟩)) 84).run Try.prog w = .ok (.pointer (some ⟨b, o + 309, none⟩)) w := by kernel_rfl
@[go_sem ↓] theorem fa242_85 (b o : Nat) (w : World) : (Instr.fieldAt 242 (.pointer (some ⟨b, o, none⟩)) 85).run Try.prog w = .ok (.pointer (some ⟨b, o + 310, none⟩)) w := by kernel_rfl
@[go_sem ↓] theorem fa242_86 (b o : Nat) (w : World) : (Instr.fieldAt 242 (.pointer (some ⟨b, o, none⟩)) 86).run Try.prog w = .ok (.pointer (some ⟨b, o + 312, none⟩)) w := by kernel_rfl
@[go_sem ↓] theorem fa242_87 (b o : Nat) (w : World) : (Instr.fieldAt 242 (.pointer (some ⟨b, o, none⟩)) 87).run Try.prog w = .ok (.pointer (some ⟨b, o + 314, none⟩)) w := by kernel_rfl
@[go_sem ↓] theorem fa242_88 (b o : Nat) (w : World) : (Instr.fieldAt 242 (.pointer (some ⟨b, o, none⟩)) 88).run Try.prog w = .ok (.pointer (some ⟨b, o + 316, none⟩)) w := by kernel_rfl
@[go_sem ↓] theorem fa242_89 (b o : Nat) (w : World) : (Instr.fieldAt 242 (.pointer (some ⟨b, o, none⟩)) 89).run Try.prog w = .ok (.pointer (some ⟨b, o + 318, none⟩)) w := by kernel_rfl
@[go_sem ↓] theorem fa242_90 (b o : Nat) (w : World) : (Instr.fieldAt 242 (.pointer (some ⟨b, o, none⟩)) 90).run Try.prog w = .ok (.pointer (some ⟨b, o + 320, none⟩)) w := by kernel_rfl
@[go_sem ↓] theorem fa242_91 (b o : Nat) (w : World) : (Instr.fieldAt 242 (.pointer (some ⟨b, o, none⟩)) 91).run Try.prog w = .ok (.pointer (some ⟨b, o + 322, none⟩)) w := by kernel_rfl
@[go_sem ↓] theorem fa242_92 (b o : Nat) (w : World) : (Instr.fieldAt 242 (.pointer (some ⟨b, o, none⟩)) 92).run Try.prog w = .ok (.pointer (some ⟨b, o + 324, none⟩)) w := by kernel_rfl
@[go_sem ↓] theorem fa242_93 (b o : Nat) (w : World) : (Instr.fieldAt 242 (.pointer (some ⟨b, o, none⟩)) 93).run Try.prog w = .ok (.pointer (some ⟨b, o + 326, none⟩)) w := by kernel_rfl
@[go_sem ↓] theorem fa242_94 (b o : Nat) (w : World) : (Instr.fieldAt 242 (.pointer (some ⟨b, o, none⟩)) 94).run Try.prog w = .ok (.pointer (some ⟨b, o + 327, none⟩)) w := by kernel_rfl
@[go_sem ↓] theorem fa242_95 (b o : Nat) (w : World) : (Instr.fieldAt 242 (.pointer (some ⟨b, o, none⟩)) 95).run Try.prog w = .ok (.pointer (some ⟨b, o + 328, none⟩)) w := by kernel_rfl
@[go_sem ↓] theorem fa242_96 (b o : Nat) (w : World) : (Instr.fieldAt 242 (.pointer (some ⟨b, o, none⟩)) 96).run Try.prog w = .ok (.pointer (some ⟨b, o + 329, none⟩)) w := by kernel_rfl
@[go_sem ↓] theorem fa242_97 (b o : Nat) (w : World) : (Instr.fieldAt 242 (.pointer (some ⟨b, o, none⟩)) 97).run Try.prog w = .ok (.pointer (some ⟨b, o + 339, none⟩)) w := by kernel_rfl
@[go_sem ↓] theorem fa242_98 (b o : Nat) (w : World) : (Instr.fieldAt 242 (.pointer (some ⟨b, o, none⟩)) 98).run Try.prog w = .ok (.pointer (some ⟨b, o + 340, none⟩)) w := by kernel_rfl
@[go_sem ↓] theorem fa242_99 (b o : Nat) (w : World) : (Instr.fieldAt 242 (.pointer (some ⟨b, o, none⟩)) 99).run Try.prog w = .ok (.pointer (some ⟨b, o + 341, none⟩)) w := by kernel_rfl
@[go_sem ↓] theorem fa242_100 (b o : Nat) (w : World) : (Instr.fieldAt 242 (.pointer (some ⟨b, o, none⟩)) 100).run Try.prog w = .ok (.pointer (some ⟨b, o + 342, none⟩)) w := by kernel_rfl
@[go_sem ↓] theorem fa242_101 (b o : Nat) (w : World) : (Instr.fieldAt 242 (.pointer (some ⟨b, o, none⟩)) 101).run Try.prog w = .ok (.pointer (some ⟨b, o + 343, none⟩)) w := by kernel_rfl
@[go_sem ↓] theorem fa242_102 (b o : Nat) (w : World) : (Instr.fieldAt 242 (.pointer (some ⟨b, o, none⟩)) 102).run Try.prog w = .ok (.pointer (some ⟨b, o + 344, none⟩)) w := by kernel_rfl
@[go_sem ↓] theorem fa242_103 (b o : Nat) (w : World) : (Instr.fieldAt 242 (.pointer (some ⟨b, o, none⟩)) 103).run Try.prog w = .ok (.pointer (some ⟨b, o + 345, none⟩)) w := by kernel_rfl
@[go_sem ↓] theorem fa242_104 (b o : Nat) (w : World) : (Instr.fieldAt 242 (.pointer (some ⟨b, o, none⟩)) 104).run Try.prog w = .ok (.pointer (some ⟨b, o + 346, none⟩)) w := by kernel_rfl
@[go_sem ↓] theorem fa242_105 (b o : Nat) (w : World) : (Instr.fieldAt 242 (.pointer (some ⟨b, o, none⟩)) 105).run Try.prog w = .ok (.pointer (some ⟨b, o + 347, none⟩)) w := by kernel_rfl
@[go_sem ↓] theorem fa242_106 (b o : Nat) (w : World) : (Instr.fieldAt 242 (.pointer (some ⟨b, o, none⟩)) 106).run Try.prog w = .ok (.pointer (some ⟨b, o + 348, none⟩)) w := by kernel_rfl
@[go_sem ↓] theorem fa242_107 (b o : Nat) (w : World) : (Instr.fieldAt 242 (.pointer (some ⟨b, o, none⟩)) 107).run Try.prog w = .ok (.pointer (some ⟨b, o + 349, none⟩)) w := by kernel_rfl
@[go_sem ↓] theorem fa242_108 (b o : Nat) (w : World) : (Instr.fieldAt 242 (.pointer (some ⟨b, o, none⟩)) 108).run Try.prog w = .ok (.pointer (some ⟨b, o + 350, none⟩)) w := by kernel_rfl
@[go_sem ↓] theorem fa242_109 (b o : Nat) (w : World) : (Instr.fieldAt 242 (.pointer (some ⟨b, o, none⟩)) 109).run Try.prog w = .ok (.pointer (some ⟨b, o + 351, none⟩)) w := by kernel_rfl
@[go_sem ↓] theorem fa242_110 (b o : Nat) (w : World) : (Instr.fieldAt 242 (.pointer (some ⟨b, o, none⟩)) 110).run Try.prog w = .ok (.pointer (some ⟨b, o + 352, none⟩)) w := by kernel_rfl

end Go.Proofs.Ytgefhkjidldjlac
