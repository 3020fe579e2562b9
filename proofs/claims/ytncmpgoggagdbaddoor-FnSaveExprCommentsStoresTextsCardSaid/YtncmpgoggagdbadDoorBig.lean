/-
  The struct types of many fields: the zero value's cells behind a name, where each field lies, what each zero cell holds.
-/
import Derived.Test.YtncmpgoggagdbadDoorKit
namespace Go.Proofs.YtncmpgoggagdbadDoor
set_option maxRecDepth 100000

noncomputable def PZ159 : Array Value := match (Tryd.prog.info? 159).bind (·.zero) with | some (.agg c) => c | _ => #[]
@[go_sem ↓] theorem zv159 (w : World) : (zeroValue 159).run Tryd.prog w = .ok (.agg PZ159) w := by kernel_rfl
@[simp, go_sem] theorem PZ159_size : PZ159.size = 353 := by kernel_rfl
@[simp, go_sem] theorem PZ159_0 : PZ159[0]? = some (.slice none 0 0) := by kernel_rfl
@[simp, go_sem] theorem PZ159_1 : PZ159[1]? = some (.nilIface) := by kernel_rfl
@[simp, go_sem] theorem PZ159_2 : PZ159[2]? = some (.slice none 0 0) := by kernel_rfl
@[simp, go_sem] theorem PZ159_3 : PZ159[3]? = some (.int .u32 0) := by kernel_rfl
@[simp, go_sem] theorem PZ159_4 : PZ159[4]? = some (.nilIface) := by kernel_rfl
@[simp, go_sem] theorem PZ159_5 : PZ159[5]? = some (.slice none 0 0) := by kernel_rfl
@[simp, go_sem] theorem PZ159_6 : PZ159[6]? = some (.int .u32 0) := by kernel_rfl
@[simp, go_sem] theorem PZ159_7 : PZ159[7]? = some (.bool false) := by kernel_rfl
@[simp, go_sem] theorem PZ159_8 : PZ159[8]? = some (.bool false) := by kernel_rfl
@[simp, go_sem] theorem PZ159_9 : PZ159[9]? = some (.bool false) := by kernel_rfl
@[simp, go_sem] theorem PZ159_10 : PZ159[10]? = some (.string ⟨#[]⟩) := by kernel_rfl
@[simp, go_sem] theorem PZ159_11 : PZ159[11]? = some (.bool false) := by kernel_rfl
@[simp, go_sem] theorem PZ159_12 : PZ159[12]? = some (.bool false) := by kernel_rfl
@[simp, go_sem] theorem PZ159_13 : PZ159[13]? = some (.pointer none) := by kernel_rfl
@[simp, go_sem] theorem PZ159_14 : PZ159[14]? = some (.pointer none) := by kernel_rfl
@[simp, go_sem] theorem PZ159_15 : PZ159[15]? = some (.pointer none) := by kernel_rfl
@[simp, go_sem] theorem PZ159_16 : PZ159[16]? = some (.slice none 0 0) := by kernel_rfl
@[simp, go_sem] theorem PZ159_17 : PZ159[17]? = some (.pointer none) := by kernel_rfl
@[simp, go_sem] theorem PZ159_18 : PZ159[18]? = some (.string ⟨#[]⟩) := by kernel_rfl
@[simp, go_sem] theorem PZ159_19 : PZ159[19]? = some (.pointer none) := by kernel_rfl
@[simp, go_sem] theorem PZ159_20 : PZ159[20]? = some (.int .i32 0) := by kernel_rfl
@[simp, go_sem] theorem PZ159_21 : PZ159[21]? = some (.int .i32 0) := by kernel_rfl
@[simp, go_sem] theorem PZ159_22 : PZ159[22]? = some (.int .u8 0) := by kernel_rfl
@[simp, go_sem] theorem PZ159_23 : PZ159[23]? = some (.int .u64 0) := by kernel_rfl
@[simp, go_sem] theorem PZ159_24 : PZ159[24]? = some (.int .u64 0) := by kernel_rfl
@[simp, go_sem] theorem PZ159_25 : PZ159[25]? = some (.int .u64 0) := by kernel_rfl
@[simp, go_sem] theorem PZ159_26 : PZ159[26]? = some (.int .u8 0) := by kernel_rfl
@[simp, go_sem] theorem PZ159_27 : PZ159[27]? = some (.int .u8 0) := by kernel_rfl
@[simp, go_sem] theorem PZ159_28 : PZ159[28]? = some (.int .u8 0) := by kernel_rfl
@[simp, go_sem] theorem PZ159_29 : PZ159[29]? = some (.int .u8 0) := by kernel_rfl
@[simp, go_sem] theorem PZ159_30 : PZ159[30]? = some (.int .u8 0) := by kernel_rfl
@[simp, go_sem] theorem PZ159_31 : PZ159[31]? = some (.int .u8 0) := by kernel_rfl
@[simp, go_sem] theorem PZ159_32 : PZ159[32]? = some (.bool false) := by kernel_rfl
@[simp, go_sem] theorem PZ159_33 : PZ159[33]? = some (.bool false) := by kernel_rfl
@[simp, go_sem] theorem PZ159_34 : PZ159[34]? = some (.int .u8 0) := by kernel_rfl
@[simp, go_sem] theorem PZ159_35 : PZ159[35]? = some (.int .u8 0) := by kernel_rfl
@[simp, go_sem] theorem PZ159_36 : PZ159[36]? = some (.int .u8 0) := by kernel_rfl
@[simp, go_sem] theorem PZ159_37 : PZ159[37]? = some (.int .u8 0) := by kernel_rfl
@[simp, go_sem] theorem PZ159_38 : PZ159[38]? = some (.int .u8 0) := by kernel_rfl
@[simp, go_sem] theorem PZ159_39 : PZ159[39]? = some (.bool false) := by kernel_rfl
@[simp, go_sem] theorem PZ159_40 : PZ159[40]? = some (.bool false) := by kernel_rfl
@[simp, go_sem] theorem PZ159_41 : PZ159[41]? = some (.bool false) := by kernel_rfl
@[simp, go_sem] theorem PZ159_42 : PZ159[42]? = some (.bool false) := by kernel_rfl
@[simp, go_sem] theorem PZ159_43 : PZ159[43]? = some (.bool false) := by kernel_rfl
@[simp, go_sem] theorem PZ159_44 : PZ159[44]? = some (.bool false) := by kernel_rfl
@[simp, go_sem] theorem PZ159_45 : PZ159[45]? = some (.bool false) := by kernel_rfl
@[simp, go_sem] theorem PZ159_46 : PZ159[46]? = some (.bool false) := by kernel_rfl
@[simp, go_sem] theorem PZ159_47 : PZ159[47]? = some (.bool false) := by kernel_rfl
@[simp, go_sem] theorem PZ159_48 : PZ159[48]? = some (.bool false) := by kernel_rfl
@[simp, go_sem] theorem PZ159_49 : PZ159[49]? = some (.bool false) := by kernel_rfl
@[simp, go_sem] theorem PZ159_50 : PZ159[50]? = some (.bool false) := by kernel_rfl
@[simp, go_sem] theorem PZ159_51 : PZ159[51]? = some (.nilFunc) := by kernel_rfl
@[simp, go_sem] theorem PZ159_52 : PZ159[52]? = some (.nilFunc) := by kernel_rfl
@[simp, go_sem] theorem PZ159_53 : PZ159[53]? = some (.nilFunc) := by kernel_rfl
@[simp, go_sem] theorem PZ159_54 : PZ159[54]? = some (.nilFunc) := by kernel_rfl
@[simp, go_sem] theorem PZ159_55 : PZ159[55]? = some (.int .i8 0) := by kernel_rfl
@[simp, go_sem] theorem PZ159_56 : PZ159[56]? = some (.map none) := by kernel_rfl
@[simp, go_sem] theorem PZ159_57 : PZ159[57]? = some (.string ⟨#[]⟩) := by kernel_rfl
@[simp, go_sem] theorem PZ159_58 : PZ159[58]? = some (.string ⟨#[]⟩) := by kernel_rfl
@[simp, go_sem] theorem PZ159_59 : PZ159[59]? = some (.string ⟨#[]⟩) := by kernel_rfl
@[simp, go_sem] theorem PZ159_60 : PZ159[60]? = some (.string ⟨#[]⟩) := by kernel_rfl
@[simp, go_sem] theorem PZ159_61 : PZ159[61]? = some (.string ⟨#[]⟩) := by kernel_rfl
@[simp, go_sem] theorem PZ159_62 : PZ159[62]? = some (.string ⟨#[]⟩) := by kernel_rfl
@[simp, go_sem] theorem PZ159_63 : PZ159[63]? = some (.string ⟨#[]⟩) := by kernel_rfl
@[simp, go_sem] theorem PZ159_64 : PZ159[64]? = some (.string ⟨#[]⟩) := by kernel_rfl
@[simp, go_sem] theorem PZ159_65 : PZ159[65]? = some (.int .u8 0) := by kernel_rfl
@[simp, go_sem] theorem PZ159_66 : PZ159[66]? = some (.int .u32 0) := by kernel_rfl
@[simp, go_sem] theorem PZ159_67 : PZ159[67]? = some (.string ⟨#[]⟩) := by kernel_rfl
@[simp, go_sem] theorem PZ159_68 : PZ159[68]? = some (.string ⟨#[]⟩) := by kernel_rfl
@[simp, go_sem] theorem PZ159_69 : PZ159[69]? = some (.string ⟨#[]⟩) := by kernel_rfl
@[simp, go_sem] theorem PZ159_70 : PZ159[70]? = some (.int .i32 0) := by kernel_rfl
@[simp, go_sem] theorem PZ159_71 : PZ159[71]? = some (.int .i32 0) := by kernel_rfl
@[simp, go_sem] theorem PZ159_72 : PZ159[72]? = some (.int .i32 0) := by kernel_rfl
@[simp, go_sem] theorem PZ159_73 : PZ159[73]? = some (.int .i32 0) := by kernel_rfl
@[simp, go_sem] theorem PZ159_74 : PZ159[74]? = some (.bool false) := by kernel_rfl
@[simp, go_sem] theorem PZ159_75 : PZ159[75]? = some (.bool false) := by kernel_rfl
@[simp, go_sem] theorem PZ159_76 : PZ159[76]? = some (.bool false) := by kernel_rfl
@[simp, go_sem] theorem PZ159_77 : PZ159[77]? = some (.pointer none) := by kernel_rfl
@[simp, go_sem] theorem PZ159_78 : PZ159[78]? = some (.pointer none) := by kernel_rfl
@[simp, go_sem] theorem PZ159_79 : PZ159[79]? = some (.int .i32 0) := by kernel_rfl
@[simp, go_sem] theorem PZ159_80 : PZ159[80]? = some (.int .i32 0) := by kernel_rfl
@[simp, go_sem] theorem PZ159_81 : PZ159[81]? = some (.int .i32 0) := by kernel_rfl
@[simp, go_sem] theorem PZ159_82 : PZ159[82]? = some (.int .u8 0) := by kernel_rfl
@[simp, go_sem] theorem PZ159_83 : PZ159[83]? = some (.int .u8 0) := by kernel_rfl
@[simp, go_sem] theorem PZ159_84 : PZ159[84]? = some (.bool false) := by kernel_rfl
@[simp, go_sem] theorem PZ159_85 : PZ159[85]? = some (.bool false) := by kernel_rfl
@[simp, go_sem] theorem PZ159_86 : PZ159[86]? = some (.bool false) := by kernel_rfl
@[simp, go_sem] theorem PZ159_87 : PZ159[87]? = some (.bool false) := by kernel_rfl
@[simp, go_sem] theorem PZ159_88 : PZ159[88]? = some (.bool false) := by kernel_rfl
@[simp, go_sem] theorem PZ159_89 : PZ159[89]? = some (.bool false) := by kernel_rfl
@[simp, go_sem] theorem PZ159_90 : PZ159[90]? = some (.bool false) := by kernel_rfl
@[simp, go_sem] theorem PZ159_91 : PZ159[91]? = some (.bool false) := by kernel_rfl
@[simp, go_sem] theorem PZ159_92 : PZ159[92]? = some (.pointer none) := by kernel_rfl
@[simp, go_sem] theorem PZ159_93 : PZ159[93]? = some (.pointer none) := by kernel_rfl
@[simp, go_sem] theorem PZ159_94 : PZ159[94]? = some (.pointer none) := by kernel_rfl
@[simp, go_sem] theorem PZ159_95 : PZ159[95]? = some (.bool false) := by kernel_rfl
@[simp, go_sem] theorem PZ159_96 : PZ159[96]? = some (.bool false) := by kernel_rfl
@[simp, go_sem] theorem PZ159_97 : PZ159[97]? = some (.pointer none) := by kernel_rfl
@[simp, go_sem] theorem PZ159_98 : PZ159[98]? = some (.bool false) := by kernel_rfl
@[simp, go_sem] theorem PZ159_99 : PZ159[99]? = some (.bool false) := by kernel_rfl
@[simp, go_sem] theorem PZ159_100 : PZ159[100]? = some (.bool false) := by kernel_rfl
@[simp, go_sem] theorem PZ159_101 : PZ159[101]? = some (.bool false) := by kernel_rfl
@[simp, go_sem] theorem PZ159_102 : PZ159[102]? = some (.bool false) := by kernel_rfl
@[simp, go_sem] theorem PZ159_103 : PZ159[103]? = some (.slice none 0 0) := by kernel_rfl
@[simp, go_sem] theorem PZ159_104 : PZ159[104]? = some (.pointer none) := by kernel_rfl
@[simp, go_sem] theorem PZ159_105 : PZ159[105]? = some (.pointer none) := by kernel_rfl
@[simp, go_sem] theorem PZ159_106 : PZ159[106]? = some (.slice none 0 0) := by kernel_rfl
@[simp, go_sem] theorem PZ159_107 : PZ159[107]? = some (.nilFunc) := by kernel_rfl
@[simp, go_sem] theorem PZ159_108 : PZ159[108]? = some (.slice none 0 0) := by kernel_rfl
@[simp, go_sem] theorem PZ159_109 : PZ159[109]? = some (.slice none 0 0) := by kernel_rfl
@[simp, go_sem] theorem PZ159_110 : PZ159[110]? = some (.map none) := by kernel_rfl
@[simp, go_sem] theorem PZ159_111 : PZ159[111]? = some (.map none) := by kernel_rfl
@[simp, go_sem] theorem PZ159_112 : PZ159[112]? = some (.map none) := by kernel_rfl
@[simp, go_sem] theorem PZ159_113 : PZ159[113]? = some (.map none) := by kernel_rfl
@[simp, go_sem] theorem PZ159_114 : PZ159[114]? = some (.map none) := by kernel_rfl
@[simp, go_sem] theorem PZ159_115 : PZ159[115]? = some (.map none) := by kernel_rfl
@[simp, go_sem] theorem PZ159_116 : PZ159[116]? = some (.slice none 0 0) := by kernel_rfl
@[simp, go_sem] theorem PZ159_117 : PZ159[117]? = some (.map none) := by kernel_rfl
@[simp, go_sem] theorem PZ159_118 : PZ159[118]? = some (.slice none 0 0) := by kernel_rfl
@[simp, go_sem] theorem PZ159_119 : PZ159[119]? = some (.int .u8 0) := by kernel_rfl
@[simp, go_sem] theorem PZ159_120 : PZ159[120]? = some (.int .u8 0) := by kernel_rfl
@[simp, go_sem] theorem PZ159_121 : PZ159[121]? = some (.int .u8 0) := by kernel_rfl
@[simp, go_sem] theorem PZ159_122 : PZ159[122]? = some (.int .u8 0) := by kernel_rfl
@[simp, go_sem] theorem PZ159_123 : PZ159[123]? = some (.int .u8 0) := by kernel_rfl
@[simp, go_sem] theorem PZ159_124 : PZ159[124]? = some (.int .u8 0) := by kernel_rfl
@[simp, go_sem] theorem PZ159_125 : PZ159[125]? = some (.int .u8 0) := by kernel_rfl
@[simp, go_sem] theorem PZ159_126 : PZ159[126]? = some (.int .u8 0) := by kernel_rfl
@[simp, go_sem] theorem PZ159_127 : PZ159[127]? = some (.int .u8 0) := by kernel_rfl
@[simp, go_sem] theorem PZ159_128 : PZ159[128]? = some (.int .u8 0) := by kernel_rfl
@[simp, go_sem] theorem PZ159_129 : PZ159[129]? = some (.int .u8 0) := by kernel_rfl
@[simp, go_sem] theorem PZ159_130 : PZ159[130]? = some (.int .u8 0) := by kernel_rfl
@[simp, go_sem] theorem PZ159_131 : PZ159[131]? = some (.int .u8 0) := by kernel_rfl
@[simp, go_sem] theorem PZ159_132 : PZ159[132]? = some (.int .u8 0) := by kernel_rfl
@[simp, go_sem] theorem PZ159_133 : PZ159[133]? = some (.int .u8 0) := by kernel_rfl
@[simp, go_sem] theorem PZ159_134 : PZ159[134]? = some (.int .u8 0) := by kernel_rfl
@[simp, go_sem] theorem PZ159_135 : PZ159[135]? = some (.int .u8 0) := by kernel_rfl
@[simp, go_sem] theorem PZ159_136 : PZ159[136]? = some (.int .u8 0) := by kernel_rfl
@[simp, go_sem] theorem PZ159_137 : PZ159[137]? = some (.int .u8 0) := by kernel_rfl
@[simp, go_sem] theorem PZ159_138 : PZ159[138]? = some (.int .u8 0) := by kernel_rfl
@[simp, go_sem] theorem PZ159_139 : PZ159[139]? = some (.int .u8 0) := by kernel_rfl
@[simp, go_sem] theorem PZ159_140 : PZ159[140]? = some (.int .u8 0) := by kernel_rfl
@[simp, go_sem] theorem PZ159_141 : PZ159[141]? = some (.int .u8 0) := by kernel_rfl
@[simp, go_sem] theorem PZ159_142 : PZ159[142]? = some (.int .u8 0) := by kernel_rfl
@[simp, go_sem] theorem PZ159_143 : PZ159[143]? = some (.int .u8 0) := by kernel_rfl
@[simp, go_sem] theorem PZ159_144 : PZ159[144]? = some (.int .u8 0) := by kernel_rfl
@[simp, go_sem] theorem PZ159_145 : PZ159[145]? = some (.int .u8 0) := by kernel_rfl
@[simp, go_sem] theorem PZ159_146 : PZ159[146]? = some (.int .u8 0) := by kernel_rfl
@[simp, go_sem] theorem PZ159_147 : PZ159[147]? = some (.int .u8 0) := by kernel_rfl
@[simp, go_sem] theorem PZ159_148 : PZ159[148]? = some (.int .u8 0) := by kernel_rfl
@[simp, go_sem] theorem PZ159_149 : PZ159[149]? = some (.int .u8 0) := by kernel_rfl
@[simp, go_sem] theorem PZ159_150 : PZ159[150]? = some (.int .u8 0) := by kernel_rfl
@[simp, go_sem] theorem PZ159_151 : PZ159[151]? = some (.map none) := by kernel_rfl
@[simp, go_sem] theorem PZ159_152 : PZ159[152]? = some (.map none) := by kernel_rfl
@[simp, go_sem] theorem PZ159_153 : PZ159[153]? = some (.map none) := by kernel_rfl
@[simp, go_sem] theorem PZ159_154 : PZ159[154]? = some (.slice none 0 0) := by kernel_rfl
@[simp, go_sem] theorem PZ159_155 : PZ159[155]? = some (.map none) := by kernel_rfl
@[simp, go_sem] theorem PZ159_156 : PZ159[156]? = some (.map none) := by kernel_rfl
@[simp, go_sem] theorem PZ159_157 : PZ159[157]? = some (.map none) := by kernel_rfl
@[simp, go_sem] theorem PZ159_158 : PZ159[158]? = some (.map none) := by kernel_rfl
@[simp, go_sem] theorem PZ159_159 : PZ159[159]? = some (.nilIface) := by kernel_rfl
@[simp, go_sem] theorem PZ159_160 : PZ159[160]? = some (.nilIface) := by kernel_rfl
@[simp, go_sem] theorem PZ159_161 : PZ159[161]? = some (.map none) := by kernel_rfl
@[simp, go_sem] theorem PZ159_162 : PZ159[162]? = some (.map none) := by kernel_rfl
@[simp, go_sem] theorem PZ159_163 : PZ159[163]? = some (.map none) := by kernel_rfl
@[simp, go_sem] theorem PZ159_164 : PZ159[164]? = some (.map none) := by kernel_rfl
@[simp, go_sem] theorem PZ159_165 : PZ159[165]? = some (.map none) := by kernel_rfl
@[simp, go_sem] theorem PZ159_166 : PZ159[166]? = some (.nilIface) := by kernel_rfl
@[simp, go_sem] theorem PZ159_167 : PZ159[167]? = some (.pointer none) := by kernel_rfl
@[simp, go_sem] theorem PZ159_168 : PZ159[168]? = some (.pointer none) := by kernel_rfl
@[simp, go_sem] theorem PZ159_169 : PZ159[169]? = some (.slice none 0 0) := by kernel_rfl
@[simp, go_sem] theorem PZ159_170 : PZ159[170]? = some (.slice none 0 0) := by kernel_rfl
@[simp, go_sem] theorem PZ159_171 : PZ159[171]? = some (.map none) := by kernel_rfl
@[simp, go_sem] theorem PZ159_172 : PZ159[172]? = some (.map none) := by kernel_rfl
@[simp, go_sem] theorem PZ159_173 : PZ159[173]? = some (.map none) := by kernel_rfl
@[simp, go_sem] theorem PZ159_174 : PZ159[174]? = some (.map none) := by kernel_rfl
@[simp, go_sem] theorem PZ159_175 : PZ159[175]? = some (.map none) := by kernel_rfl
@[simp, go_sem] theorem PZ159_176 : PZ159[176]? = some (.map none) := by kernel_rfl
@[simp, go_sem] theorem PZ159_177 : PZ159[177]? = some (.slice none 0 0) := by kernel_rfl
@[simp, go_sem] theorem PZ159_178 : PZ159[178]? = some (.string ⟨#[]⟩) := by kernel_rfl
@[simp, go_sem] theorem PZ159_179 : PZ159[179]? = some (.nilIface) := by kernel_rfl
@[simp, go_sem] theorem PZ159_180 : PZ159[180]? = some (.nilIface) := by kernel_rfl
@[simp, go_sem] theorem PZ159_181 : PZ159[181]? = some (.nilIface) := by kernel_rfl
@[simp, go_sem] theorem PZ159_182 : PZ159[182]? = some (.nilIface) := by kernel_rfl
@[simp, go_sem] theorem PZ159_183 : PZ159[183]? = some (.nilIface) := by kernel_rfl
@[simp, go_sem] theorem PZ159_184 : PZ159[184]? = some (.nilIface) := by kernel_rfl
@[simp, go_sem] theorem PZ159_185 : PZ159[185]? = some (.nilIface) := by kernel_rfl
@[simp, go_sem] theorem PZ159_186 : PZ159[186]? = some (.nilIface) := by kernel_rfl
@[simp, go_sem] theorem PZ159_187 : PZ159[187]? = some (.pointer none) := by kernel_rfl
@[simp, go_sem] theorem PZ159_188 : PZ159[188]? = some (.nilIface) := by kernel_rfl
@[simp, go_sem] theorem PZ159_189 : PZ159[189]? = some (.int .i32 0) := by kernel_rfl
@[simp, go_sem] theorem PZ159_190 : PZ159[190]? = some (.map none) := by kernel_rfl
@[simp, go_sem] theorem PZ159_191 : PZ159[191]? = some (.nilIface) := by kernel_rfl
@[simp, go_sem] theorem PZ159_192 : PZ159[192]? = some (.nilIface) := by kernel_rfl
@[simp, go_sem] theorem PZ159_193 : PZ159[193]? = some (.int .i32 0) := by kernel_rfl
@[simp, go_sem] theorem PZ159_194 : PZ159[194]? = some (.bool false) := by kernel_rfl
@[simp, go_sem] theorem PZ159_195 : PZ159[195]? = some (.bool false) := by kernel_rfl
@[simp, go_sem] theorem PZ159_196 : PZ159[196]? = some (.slice none 0 0) := by kernel_rfl
@[simp, go_sem] theorem PZ159_197 : PZ159[197]? = some (.map none) := by kernel_rfl
@[simp, go_sem] theorem PZ159_198 : PZ159[198]? = some (.slice none 0 0) := by kernel_rfl
@[simp, go_sem] theorem PZ159_199 : PZ159[199]? = some (.slice none 0 0) := by kernel_rfl
@[simp, go_sem] theorem PZ159_200 : PZ159[200]? = some (.slice none 0 0) := by kernel_rfl
@[simp, go_sem] theorem PZ159_201 : PZ159[201]? = some (.slice none 0 0) := by kernel_rfl
@[simp, go_sem] theorem PZ159_202 : PZ159[202]? = some (.slice none 0 0) := by kernel_rfl
@[simp, go_sem] theorem PZ159_203 : PZ159[203]? = some (.slice none 0 0) := by kernel_rfl
@[simp, go_sem] theorem PZ159_204 : PZ159[204]? = some (.string ⟨#[]⟩) := by kernel_rfl
@[simp, go_sem] theorem PZ159_205 : PZ159[205]? = some (.int .u32 0) := by kernel_rfl
@[simp, go_sem] theorem PZ159_206 : PZ159[206]? = some (.nilFunc) := by kernel_rfl
@[simp, go_sem] theorem PZ159_207 : PZ159[207]? = some (.nilFunc) := by kernel_rfl
@[simp, go_sem] theorem PZ159_208 : PZ159[208]? = some (.nilFunc) := by kernel_rfl
@[simp, go_sem] theorem PZ159_209 : PZ159[209]? = some (.nilFunc) := by kernel_rfl
@[simp, go_sem] theorem PZ159_210 : PZ159[210]? = some (.int .i8 0) := by kernel_rfl
@[simp, go_sem] theorem PZ159_211 : PZ159[211]? = some (.map none) := by kernel_rfl
@[simp, go_sem] theorem PZ159_212 : PZ159[212]? = some (.string ⟨#[]⟩) := by kernel_rfl
@[simp, go_sem] theorem PZ159_213 : PZ159[213]? = some (.string ⟨#[]⟩) := by kernel_rfl
@[simp, go_sem] theorem PZ159_214 : PZ159[214]? = some (.string ⟨#[]⟩) := by kernel_rfl
@[simp, go_sem] theorem PZ159_215 : PZ159[215]? = some (.string ⟨#[]⟩) := by kernel_rfl
@[simp, go_sem] theorem PZ159_216 : PZ159[216]? = some (.string ⟨#[]⟩) := by kernel_rfl
@[simp, go_sem] theorem PZ159_217 : PZ159[217]? = some (.string ⟨#[]⟩) := by kernel_rfl
@[simp, go_sem] theorem PZ159_218 : PZ159[218]? = some (.string ⟨#[]⟩) := by kernel_rfl
@[simp, go_sem] theorem PZ159_219 : PZ159[219]? = some (.string ⟨#[]⟩) := by kernel_rfl
@[simp, go_sem] theorem PZ159_220 : PZ159[220]? = some (.int .u8 0) := by kernel_rfl
@[simp, go_sem] theorem PZ159_221 : PZ159[221]? = some (.int .u32 0) := by kernel_rfl
@[simp, go_sem] theorem PZ159_222 : PZ159[222]? = some (.string ⟨#[]⟩) := by kernel_rfl
@[simp, go_sem] theorem PZ159_223 : PZ159[223]? = some (.int .i32 0) := by kernel_rfl
@[simp, go_sem] theorem PZ159_224 : PZ159[224]? = some (.int .i32 0) := by kernel_rfl
@[simp, go_sem] theorem PZ159_225 : PZ159[225]? = some (.string ⟨#[]⟩) := by kernel_rfl
@[simp, go_sem] theorem PZ159_226 : PZ159[226]? = some (.int .i32 0) := by kernel_rfl
@[simp, go_sem] theorem PZ159_227 : PZ159[227]? = some (.int .i32 0) := by kernel_rfl
@[simp, go_sem] theorem PZ159_228 : PZ159[228]? = some (.string ⟨#[]⟩) := by kernel_rfl
@[simp, go_sem] theorem PZ159_229 : PZ159[229]? = some (.int .i32 0) := by kernel_rfl
@[simp, go_sem] theorem PZ159_230 : PZ159[230]? = some (.int .i32 0) := by kernel_rfl
@[simp, go_sem] theorem PZ159_231 : PZ159[231]? = some (.string ⟨#[]⟩) := by kernel_rfl
@[simp, go_sem] theorem PZ159_232 : PZ159[232]? = some (.int .i32 0) := by kernel_rfl
@[simp, go_sem] theorem PZ159_233 : PZ159[233]? = some (.int .i32 0) := by kernel_rfl
@[simp, go_sem] theorem PZ159_234 : PZ159[234]? = some (.string ⟨#[]⟩) := by kernel_rfl
@[simp, go_sem] theorem PZ159_235 : PZ159[235]? = some (.int .i32 0) := by kernel_rfl
@[simp, go_sem] theorem PZ159_236 : PZ159[236]? = some (.int .i32 0) := by kernel_rfl
@[simp, go_sem] theorem PZ159_237 : PZ159[237]? = some (.string ⟨#[]⟩) := by kernel_rfl
@[simp, go_sem] theorem PZ159_238 : PZ159[238]? = some (.slice none 0 0) := by kernel_rfl
@[simp, go_sem] theorem PZ159_239 : PZ159[239]? = some (.string ⟨#[]⟩) := by kernel_rfl
@[simp, go_sem] theorem PZ159_240 : PZ159[240]? = some (.string ⟨#[]⟩) := by kernel_rfl
@[simp, go_sem] theorem PZ159_241 : PZ159[241]? = some (.string ⟨#[]⟩) := by kernel_rfl
@[simp, go_sem] theorem PZ159_242 : PZ159[242]? = some (.string ⟨#[]⟩) := by kernel_rfl
@[simp, go_sem] theorem PZ159_243 : PZ159[243]? = some (.string ⟨#[]⟩) := by kernel_rfl
@[simp, go_sem] theorem PZ159_244 : PZ159[244]? = some (.int .i32 0) := by kernel_rfl
@[simp, go_sem] theorem PZ159_245 : PZ159[245]? = some (.int .i32 0) := by kernel_rfl
@[simp, go_sem] theorem PZ159_246 : PZ159[246]? = some (.int .i32 0) := by kernel_rfl
@[simp, go_sem] theorem PZ159_247 : PZ159[247]? = some (.int .i32 0) := by kernel_rfl
@[simp, go_sem] theorem PZ159_248 : PZ159[248]? = some (.bool false) := by kernel_rfl
@[simp, go_sem] theorem PZ159_249 : PZ159[249]? = some (.bool false) := by kernel_rfl
@[simp, go_sem] theorem PZ159_250 : PZ159[250]? = some (.bool false) := by kernel_rfl
@[simp, go_sem] theorem PZ159_251 : PZ159[251]? = some (.int .i64 0) := by kernel_rfl
@[simp, go_sem] theorem PZ159_252 : PZ159[252]? = some (.float .f64 0) := by kernel_rfl
@[simp, go_sem] theorem PZ159_253 : PZ159[253]? = some (.int .i64 0) := by kernel_rfl
@[simp, go_sem] theorem PZ159_254 : PZ159[254]? = some (.int .i64 0) := by kernel_rfl
@[simp, go_sem] theorem PZ159_255 : PZ159[255]? = some (.int .i64 0) := by kernel_rfl
@[simp, go_sem] theorem PZ159_256 : PZ159[256]? = some (.int .i64 0) := by kernel_rfl
@[simp, go_sem] theorem PZ159_257 : PZ159[257]? = some (.int .i64 0) := by kernel_rfl
@[simp, go_sem] theorem PZ159_258 : PZ159[258]? = some (.int .i32 0) := by kernel_rfl
@[simp, go_sem] theorem PZ159_259 : PZ159[259]? = some (.int .i32 0) := by kernel_rfl
@[simp, go_sem] theorem PZ159_260 : PZ159[260]? = some (.int .i32 0) := by kernel_rfl
@[simp, go_sem] theorem PZ159_261 : PZ159[261]? = some (.int .i32 0) := by kernel_rfl
@[simp, go_sem] theorem PZ159_262 : PZ159[262]? = some (.int .i32 0) := by kernel_rfl
@[simp, go_sem] theorem PZ159_263 : PZ159[263]? = some (.int .i32 0) := by kernel_rfl
@[simp, go_sem] theorem PZ159_264 : PZ159[264]? = some (.int .i32 0) := by kernel_rfl
@[simp, go_sem] theorem PZ159_265 : PZ159[265]? = some (.int .i32 0) := by kernel_rfl
@[simp, go_sem] theorem PZ159_266 : PZ159[266]? = some (.int .i32 0) := by kernel_rfl
@[simp, go_sem] theorem PZ159_267 : PZ159[267]? = some (.int .i32 0) := by kernel_rfl
@[simp, go_sem] theorem PZ159_268 : PZ159[268]? = some (.int .i32 0) := by kernel_rfl
@[simp, go_sem] theorem PZ159_269 : PZ159[269]? = some (.int .u8 0) := by kernel_rfl
@[simp, go_sem] theorem PZ159_270 : PZ159[270]? = some (.int .u8 0) := by kernel_rfl
@[simp, go_sem] theorem PZ159_271 : PZ159[271]? = some (.int .u8 0) := by kernel_rfl
@[simp, go_sem] theorem PZ159_272 : PZ159[272]? = some (.int .u8 0) := by kernel_rfl
@[simp, go_sem] theorem PZ159_273 : PZ159[273]? = some (.int .u8 0) := by kernel_rfl
@[simp, go_sem] theorem PZ159_274 : PZ159[274]? = some (.int .u8 0) := by kernel_rfl
@[simp, go_sem] theorem PZ159_275 : PZ159[275]? = some (.int .u8 0) := by kernel_rfl
@[simp, go_sem] theorem PZ159_276 : PZ159[276]? = some (.int .u8 0) := by kernel_rfl
@[simp, go_sem] theorem PZ159_277 : PZ159[277]? = some (.bool false) := by kernel_rfl
@[simp, go_sem] theorem PZ159_278 : PZ159[278]? = some (.bool false) := by kernel_rfl
@[simp, go_sem] theorem PZ159_279 : PZ159[279]? = some (.bool false) := by kernel_rfl
@[simp, go_sem] theorem PZ159_280 : PZ159[280]? = some (.int .u8 0) := by kernel_rfl
@[simp, go_sem] theorem PZ159_281 : PZ159[281]? = some (.bool false) := by kernel_rfl
@[simp, go_sem] theorem PZ159_282 : PZ159[282]? = some (.bool false) := by kernel_rfl
@[simp, go_sem] theorem PZ159_283 : PZ159[283]? = some (.bool false) := by kernel_rfl
@[simp, go_sem] theorem PZ159_284 : PZ159[284]? = some (.bool false) := by kernel_rfl
@[simp, go_sem] theorem PZ159_285 : PZ159[285]? = some (.bool false) := by kernel_rfl
@[simp, go_sem] theorem PZ159_286 : PZ159[286]? = some (.int .i64 0) := by kernel_rfl
@[simp, go_sem] theorem PZ159_287 : PZ159[287]? = some (.int .i64 0) := by kernel_rfl
@[simp, go_sem] theorem PZ159_288 : PZ159[288]? = some (.int .i64 0) := by kernel_rfl
@[simp, go_sem] theorem PZ159_289 : PZ159[289]? = some (.int .i64 0) := by kernel_rfl
@[simp, go_sem] theorem PZ159_290 : PZ159[290]? = some (.int .i64 0) := by kernel_rfl
@[simp, go_sem] theorem PZ159_291 : PZ159[291]? = some (.int .i64 0) := by kernel_rfl
@[simp, go_sem] theorem PZ159_292 : PZ159[292]? = some (.int .u32 0) := by kernel_rfl
@[simp, go_sem] theorem PZ159_293 : PZ159[293]? = some (.int .u32 0) := by kernel_rfl
@[simp, go_sem] theorem PZ159_294 : PZ159[294]? = some (.int .u32 0) := by kernel_rfl
@[simp, go_sem] theorem PZ159_295 : PZ159[295]? = some (.int .u32 0) := by kernel_rfl
@[simp, go_sem] theorem PZ159_296 : PZ159[296]? = some (.int .u32 0) := by kernel_rfl
@[simp, go_sem] theorem PZ159_297 : PZ159[297]? = some (.int .u32 0) := by kernel_rfl
@[simp, go_sem] theorem PZ159_298 : PZ159[298]? = some (.int .u32 0) := by kernel_rfl
@[simp, go_sem] theorem PZ159_299 : PZ159[299]? = some (.int .u32 0) := by kernel_rfl
@[simp, go_sem] theorem PZ159_300 : PZ159[300]? = some (.int .u32 0) := by kernel_rfl
@[simp, go_sem] theorem PZ159_301 : PZ159[301]? = some (.int .u32 0) := by kernel_rfl
@[simp, go_sem] theorem PZ159_302 : PZ159[302]? = some (.int .u32 0) := by kernel_rfl
@[simp, go_sem] theorem PZ159_303 : PZ159[303]? = some (.int .u32 0) := by kernel_rfl
@[simp, go_sem] theorem PZ159_304 : PZ159[304]? = some (.int .u32 0) := by kernel_rfl
@[simp, go_sem] theorem PZ159_305 : PZ159[305]? = some (.int .u32 0) := by kernel_rfl
@[simp, go_sem] theorem PZ159_306 : PZ159[306]? = some (.int .u32 0) := by kernel_rfl
@[simp, go_sem] theorem PZ159_307 : PZ159[307]? = some (.int .u32 0) := by kernel_rfl
@[simp, go_sem] theorem PZ159_308 : PZ159[308]? = some (.map none) := by kernel_rfl
@[simp, go_sem] theorem PZ159_309 : PZ159[309]? = some (.map none) := by kernel_rfl
@[simp, go_sem] theorem PZ159_310 : PZ159[310]? = some (.int .u32 0) := by kernel_rfl
@[simp, go_sem] theorem PZ159_311 : PZ159[311]? = some (.int .u32 0) := by kernel_rfl
@[simp, go_sem] theorem PZ159_312 : PZ159[312]? = some (.int .u32 0) := by kernel_rfl
@[simp, go_sem] theorem PZ159_313 : PZ159[313]? = some (.int .u32 0) := by kernel_rfl
@[simp, go_sem] theorem PZ159_314 : PZ159[314]? = some (.int .i32 0) := by kernel_rfl
@[simp, go_sem] theorem PZ159_315 : PZ159[315]? = some (.int .i32 0) := by kernel_rfl
@[simp, go_sem] theorem PZ159_316 : PZ159[316]? = some (.int .i32 0) := by kernel_rfl
@[simp, go_sem] theorem PZ159_317 : PZ159[317]? = some (.int .i32 0) := by kernel_rfl
@[simp, go_sem] theorem PZ159_318 : PZ159[318]? = some (.int .i32 0) := by kernel_rfl
@[simp, go_sem] theorem PZ159_319 : PZ159[319]? = some (.int .i32 0) := by kernel_rfl
@[simp, go_sem] theorem PZ159_320 : PZ159[320]? = some (.int .i32 0) := by kernel_rfl
@[simp, go_sem] theorem PZ159_321 : PZ159[321]? = some (.int .i32 0) := by kernel_rfl
@[simp, go_sem] theorem PZ159_322 : PZ159[322]? = some (.int .i32 0) := by kernel_rfl
@[simp, go_sem] theorem PZ159_323 : PZ159[323]? = some (.int .i32 0) := by kernel_rfl
@[simp, go_sem] theorem PZ159_324 : PZ159[324]? = some (.int .i32 0) := by kernel_rfl
@[simp, go_sem] theorem PZ159_325 : PZ159[325]? = some (.int .i32 0) := by kernel_rfl
@[simp, go_sem] theorem PZ159_326 : PZ159[326]? = some (.int .i32 0) := by kernel_rfl
@[simp, go_sem] theorem PZ159_327 : PZ159[327]? = some (.int .i32 0) := by kernel_rfl
@[simp, go_sem] theorem PZ159_328 : PZ159[328]? = some (.int .i32 0) := by kernel_rfl
@[simp, go_sem] theorem PZ159_329 : PZ159[329]? = some (.int .i32 0) := by kernel_rfl
@[simp, go_sem] theorem PZ159_330 : PZ159[330]? = some (.int .i32 0) := by kernel_rfl
@[simp, go_sem] theorem PZ159_331 : PZ159[331]? = some (.bool false) := by kernel_rfl
@[simp, go_sem] theorem PZ159_332 : PZ159[332]? = some (.bool false) := by kernel_rfl
@[simp, go_sem] theorem PZ159_333 : PZ159[333]? = some (.bool false) := by kernel_rfl
@[simp, go_sem] theorem PZ159_334 : PZ159[334]? = some (.bool false) := by kernel_rfl
@[simp, go_sem] theorem PZ159_335 : PZ159[335]? = some (.bool false) := by kernel_rfl
@[simp, go_sem] theorem PZ159_336 : PZ159[336]? = some (.bool false) := by kernel_rfl
@[simp, go_sem] theorem PZ159_337 : PZ159[337]? = some (.bool false) := by kernel_rfl
@[simp, go_sem] theorem PZ159_338 : PZ159[338]? = some (.bool false) := by kernel_rfl
@[simp, go_sem] theorem PZ159_339 : PZ159[339]? = some (.int .i64 0) := by kernel_rfl
@[simp, go_sem] theorem PZ159_340 : PZ159[340]? = some (.int .i32 0) := by kernel_rfl
@[simp, go_sem] theorem PZ159_341 : PZ159[341]? = some (.bool false) := by kernel_rfl
@[simp, go_sem] theorem PZ159_342 : PZ159[342]? = some (.bool false) := by kernel_rfl
@[simp, go_sem] theorem PZ159_343 : PZ159[343]? = some (.bool false) := by kernel_rfl
@[simp, go_sem] theorem PZ159_344 : PZ159[344]? = some (.bool false) := by kernel_rfl
@[simp, go_sem] theorem PZ159_345 : PZ159[345]? = some (.bool false) := by kernel_rfl
@[simp, go_sem] theorem PZ159_346 : PZ159[346]? = some (.bool false) := by kernel_rfl
@[simp, go_sem] theorem PZ159_347 : PZ159[347]? = some (.bool false) := by kernel_rfl
@[simp, go_sem] theorem PZ159_348 : PZ159[348]? = some (.bool false) := by kernel_rfl
@[simp, go_sem] theorem PZ159_349 : PZ159[349]? = some (.bool false) := by kernel_rfl
@[simp, go_sem] theorem PZ159_350 : PZ159[350]? = some (.bool false) := by kernel_rfl
@[simp, go_sem] theorem PZ159_351 : PZ159[351]? = some (.bool false) := by kernel_rfl
@[simp, go_sem] theorem PZ159_352 : PZ159[352]? = some (.bool false) := by kernel_rfl
@[go_sem ↓] theorem fa159_0 (b o : Nat) (w : World) : (Instr.fieldAt 159 (.pointer (some ⟨b, o, none⟩)) 0).run Tryd.prog w = .ok (.pointer (some ⟨b, o, none⟩)) w := by kernel_rfl
@[go_sem ↓] theorem fa159_1 (b o : Nat) (w : World) : (Instr.fieldAt 159 (.pointer (some ⟨b, o, none⟩)) 1).run Tryd.prog w = .ok (.pointer (some ⟨b, o + 51, none⟩)) w := by kernel_rfl
@[go_sem ↓] theorem fa159_2 (b o : Nat) (w : World) : (Instr.fieldAt 159 (.pointer (some ⟨b, o, none⟩)) 2).run Tryd.prog w = .ok (.pointer (some ⟨b, o + 57, none⟩)) w := by kernel_rfl
@[go_sem ↓] theorem fa159_3 (b o : Nat) (w : World) : (Instr.fieldAt 159 (.pointer (some ⟨b, o, none⟩)) 3).run Tryd.prog w = .ok (.pointer (some ⟨b, o + 67, none⟩)) w := by kernel_rfl
@[go_sem ↓] theorem fa159_4 (b o : Nat) (w : World) : (Instr.fieldAt 159 (.pointer (some ⟨b, o, none⟩)) 4).run Tryd.prog w = .ok (.pointer (some ⟨b, o + 77, none⟩)) w := by kernel_rfl
@[go_sem ↓] theorem fa159_5 (b o : Nat) (w : World) : (Instr.fieldAt 159 (.pointer (some ⟨b, o, none⟩)) 5).run Tryd.prog w = .ok (.pointer (some ⟨b, o + 92, none⟩)) w := by kernel_rfl
@[go_sem ↓] theorem fa159_6 (b o : Nat) (w : World) : (Instr.fieldAt 159 (.pointer (some ⟨b, o, none⟩)) 6).run Tryd.prog w = .ok (.pointer (some ⟨b, o + 103, none⟩)) w := by kernel_rfl
@[go_sem ↓] theorem fa159_7 (b o : Nat) (w : World) : (Instr.fieldAt 159 (.pointer (some ⟨b, o, none⟩)) 7).run Tryd.prog w = .ok (.pointer (some ⟨b, o + 104, none⟩)) w := by kernel_rfl
@[go_sem ↓] theorem fa159_8 (b o : Nat) (w : World) : (Instr.fieldAt 159 (.pointer (some ⟨b, o, none⟩)) 8).run Tryd.prog w = .ok (.pointer (some ⟨b, o + 105, none⟩)) w := by kernel_rfl
@[go_sem ↓] theorem fa159_9 (b o : Nat) (w : World) : (Instr.fieldAt 159 (.pointer (some ⟨b, o, none⟩)) 9).run Tryd.prog w = .ok (.pointer (some ⟨b, o + 106, none⟩)) w := by kernel_rfl
@[go_sem ↓] theorem fa159_10 (b o : Nat) (w : World) : (Instr.fieldAt 159 (.pointer (some ⟨b, o, none⟩)) 10).run Tryd.prog w = .ok (.pointer (some ⟨b, o + 107, none⟩)) w := by kernel_rfl
@[go_sem ↓] theorem fa159_11 (b o : Nat) (w : World) : (Instr.fieldAt 159 (.pointer (some ⟨b, o, none⟩)) 11).run Tryd.prog w = .ok (.pointer (some ⟨b, o + 108, none⟩)) w := by kernel_rfl
@[go_sem ↓] theorem fa159_12 (b o : Nat) (w : World) : (Instr.fieldAt 159 (.pointer (some ⟨b, o, none⟩)) 12).run Tryd.prog w = .ok (.pointer (some ⟨b, o + 109, none⟩)) w := by kernel_rfl
@[go_sem ↓] theorem fa159_13 (b o : Nat) (w : World) : (Instr.fieldAt 159 (.pointer (some ⟨b, o, none⟩)) 13).run Tryd.prog w = .ok (.pointer (some ⟨b, o + 110, none⟩)) w := by kernel_rfl
@[go_sem ↓] theorem fa159_14 (b o : Nat) (w : World) : (Instr.fieldAt 159 (.pointer (some ⟨b, o, none⟩)) 14).run Tryd.prog w = .ok (.pointer (some ⟨b, o + 111, none⟩)) w := by kernel_rfl
@[go_sem ↓] theorem fa159_15 (b o : Nat) (w : World) : (Instr.fieldAt 159 (.pointer (some ⟨b, o, none⟩)) 15).run Tryd.prog w = .ok (.pointer (some ⟨b, o + 112, none⟩)) w := by kernel_rfl
@[go_sem ↓] theorem fa159_16 (b o : Nat) (w : World) : (Instr.fieldAt 159 (.pointer (some ⟨b, o, none⟩)) 16).run Tryd.prog w = .ok (.pointer (some ⟨b, o + 113, none⟩)) w := by kernel_rfl
@[go_sem ↓] theorem fa159_17 (b o : Nat) (w : World) : (Instr.fieldAt 159 (.pointer (some ⟨b, o, none⟩)) 17).run Tryd.prog w = .ok (.pointer (some ⟨b, o + 114, none⟩)) w := by kernel_rfl
@[go_sem ↓] theorem fa159_18 (b o : Nat) (w : World) : (Instr.fieldAt 159 (.pointer (some ⟨b, o, none⟩)) 18).run Tryd.prog w = .ok (.pointer (some ⟨b, o + 115, none⟩)) w := by kernel_rfl
@[go_sem ↓] theorem fa159_19 (b o : Nat) (w : World) : (Instr.fieldAt 159 (.pointer (some ⟨b, o, none⟩)) 19).run Tryd.prog w = .ok (.pointer (some ⟨b, o + 116, none⟩)) w := by kernel_rfl
@[go_sem ↓] theorem fa159_20 (b o : Nat) (w : World) : (Instr.fieldAt 159 (.pointer (some ⟨b, o, none⟩)) 20).run Tryd.prog w = .ok (.pointer (some ⟨b, o + 117, none⟩)) w := by kernel_rfl
@[go_sem ↓] theorem fa159_21 (b o : Nat) (w : World) : (Instr.fieldAt 159 (.pointer (some ⟨b, o, none⟩)) 21).run Tryd.prog w = .ok (.pointer (some ⟨b, o + 118, none⟩)) w := by kernel_rfl
@[go_sem ↓] theorem fa159_22 (b o : Nat) (w : World) : (Instr.fieldAt 159 (.pointer (some ⟨b, o, none⟩)) 22).run Tryd.prog w = .ok (.pointer (some ⟨b, o + 151, none⟩)) w := by kernel_rfl
@[go_sem ↓] theorem fa159_23 (b o : Nat) (w : World) : (Instr.fieldAt 159 (.pointer (some ⟨b, o, none⟩)) 23).run Tryd.prog w = .ok (.pointer (some ⟨b, o + 152, none⟩)) w := by kernel_rfl
@[go_sem ↓] theorem fa159_24 (b o : Nat) (w : World) : (Instr.fieldAt 159 (.pointer (some ⟨b, o, none⟩)) 24).run Tryd.prog w = .ok (.pointer (some ⟨b, o + 153, none⟩)) w := by kernel_rfl
@[go_sem ↓] theorem fa159_25 (b o : Nat) (w : World) : (Instr.fieldAt 159 (.pointer (some ⟨b, o, none⟩)) 25).run Tryd.prog w = .ok (.pointer (some ⟨b, o + 154, none⟩)) w := by kernel_rfl
@[go_sem ↓] theorem fa159_26 (b o : Nat) (w : World) : (Instr.fieldAt 159 (.pointer (some ⟨b, o, none⟩)) 26).run Tryd.prog w = .ok (.pointer (some ⟨b, o + 155, none⟩)) w := by kernel_rfl
@[go_sem ↓] theorem fa159_27 (b o : Nat) (w : World) : (Instr.fieldAt 159 (.pointer (some ⟨b, o, none⟩)) 27).run Tryd.prog w = .ok (.pointer (some ⟨b, o + 156, none⟩)) w := by kernel_rfl
@[go_sem ↓] theorem fa159_28 (b o : Nat) (w : World) : (Instr.fieldAt 159 (.pointer (some ⟨b, o, none⟩)) 28).run Tryd.prog w = .ok (.pointer (some ⟨b, o + 157, none⟩)) w := by kernel_rfl
@[go_sem ↓] theorem fa159_29 (b o : Nat) (w : World) : (Instr.fieldAt 159 (.pointer (some ⟨b, o, none⟩)) 29).run Tryd.prog w = .ok (.pointer (some ⟨b, o + 158, none⟩)) w := by kernel_rfl
@[go_sem ↓] theorem fa159_30 (b o : Nat) (w : World) : (Instr.fieldAt 159 (.pointer (some ⟨b, o, none⟩)) 30).run Tryd.prog w = .ok (.pointer (some ⟨b, o + 159, none⟩)) w := by kernel_rfl
@[go_sem ↓] theorem fa159_31 (b o : Nat) (w : World) : (Instr.fieldAt 159 (.pointer (some ⟨b, o, none⟩)) 31).run Tryd.prog w = .ok (.pointer (some ⟨b, o + 160, none⟩)) w := by kernel_rfl
@[go_sem ↓] theorem fa159_32 (b o : Nat) (w : World) : (Instr.fieldAt 159 (.pointer (some ⟨b, o, none⟩)) 32).run Tryd.prog w = .ok (.pointer (some ⟨b, o + 161, none⟩)) w := by kernel_rfl
@[go_sem ↓] theorem fa159_33 (b o : Nat) (w : World) : (Instr.fieldAt 159 (.pointer (some ⟨b, o, none⟩)) 33).run Tryd.prog w = .ok (.pointer (some ⟨b, o + 162, none⟩)) w := by kernel_rfl
@[go_sem ↓] theorem fa159_34 (b o : Nat) (w : World) : (Instr.fieldAt 159 (.pointer (some ⟨b, o, none⟩)) 34).run Tryd.prog w = .ok (.pointer (some ⟨b, o + 163, none⟩)) w := by kernel_rfl
@[go_sem ↓] theorem fa159_35 (b o : Nat) (w : World) : (Instr.fieldAt 159 (.pointer (some ⟨b, o, none⟩)) 35).run Tryd.prog w = .ok (.pointer (some ⟨b, o + 164, none⟩)) w := by kernel_rfl
@[go_sem ↓] theorem fa159_36 (b o : Nat) (w : World) : (Instr.fieldAt 159 (.pointer (some ⟨b, o, none⟩)) 36).run Tryd.prog w = .ok (.pointer (some ⟨b, o + 165, none⟩)) w := by kernel_rfl
@[go_sem ↓] theorem fa159_37 (b o : Nat) (w : World) : (Instr.fieldAt 159 (.pointer (some ⟨b, o, none⟩)) 37).run Tryd.prog w = .ok (.pointer (some ⟨b, o + 166, none⟩)) w := by kernel_rfl
@[go_sem ↓] theorem fa159_38 (b o : Nat) (w : World) : (Instr.fieldAt 159 (.pointer (some ⟨b, o, none⟩)) 38).run Tryd.prog w = .ok (.pointer (some ⟨b, o + 167, none⟩)) w := by kernel_rfl
@[go_sem ↓] theorem fa159_39 (b o : Nat) (w : World) : (Instr.fieldAt 159 (.pointer (some ⟨b, o, none⟩)) 39).run Tryd.prog w = .ok (.pointer (some ⟨b, o + 168, none⟩)) w := by kernel_rfl
@[go_sem ↓] theorem fa159_40 (b o : Nat) (w : World) : (Instr.fieldAt 159 (.pointer (some ⟨b, o, none⟩)) 40).run Tryd.prog w = .ok (.pointer (some ⟨b, o + 169, none⟩)) w := by kernel_rfl
@[go_sem ↓] theorem fa159_41 (b o : Nat) (w : World) : (Instr.fieldAt 159 (.pointer (some ⟨b, o, none⟩)) 41).run Tryd.prog w = .ok (.pointer (some ⟨b, o + 170, none⟩)) w := by kernel_rfl
@[go_sem ↓] theorem fa159_42 (b o : Nat) (w : World) : (Instr.fieldAt 159 (.pointer (some ⟨b, o, none⟩)) 42).run Tryd.prog w = .ok (.pointer (some ⟨b, o + 171, none⟩)) w := by kernel_rfl
@[go_sem ↓] theorem fa159_43 (b o : Nat) (w : World) : (Instr.fieldAt 159 (.pointer (some ⟨b, o, none⟩)) 43).run Tryd.prog w = .ok (.pointer (some ⟨b, o + 172, none⟩)) w := by kernel_rfl
@[go_sem ↓] theorem fa159_44 (b o : Nat) (w : World) : (Instr.fieldAt 159 (.pointer (some ⟨b, o, none⟩)) 44).run Tryd.prog w = .ok (.pointer (some ⟨b, o + 173, none⟩)) w := by kernel_rfl
@[go_sem ↓] theorem fa159_45 (b o : Nat) (w : World) : (Instr.fieldAt 159 (.pointer (some ⟨b, o, none⟩)) 45).run Tryd.prog w = .ok (.pointer (some ⟨b, o + 174, none⟩)) w := by kernel_rfl
@[go_sem ↓] theorem fa159_46 (b o : Nat) (w : World) : (Instr.fieldAt 159 (.pointer (some ⟨b, o, none⟩)) 46).run Tryd.prog w = .ok (.pointer (some ⟨b, o + 175, none⟩)) w := by kernel_rfl
@[go_sem ↓] theorem fa159_47 (b o : Nat) (w : World) : (Instr.fieldAt 159 (.pointer (some ⟨b, o, none⟩)) 47).run Tryd.prog w = .ok (.pointer (some ⟨b, o + 176, none⟩)) w := by kernel_rfl
@[go_sem ↓] theorem fa159_48 (b o : Nat) (w : World) : (Instr.fieldAt 159 (.pointer (some ⟨b, o, none⟩)) 48).run Tryd.prog w = .ok (.pointer (some ⟨b, o + 177, none⟩)) w := by kernel_rfl
@[go_sem ↓] theorem fa159_49 (b o : Nat) (w : World) : (Instr.fieldAt 159 (.pointer (some ⟨b, o, none⟩)) 49).run Tryd.prog w = .ok (.pointer (some ⟨b, o + 178, none⟩)) w := by kernel_rfl
@[go_sem ↓] theorem fa159_50 (b o : Nat) (w : World) : (Instr.fieldAt 159 (.pointer (some ⟨b, o, none⟩)) 50).run Tryd.prog w = .ok (.pointer (some ⟨b, o + 179, none⟩)) w := by kernel_rfl
@[go_sem ↓] theorem fa159_51 (b o : Nat) (w : World) : (Instr.fieldAt 159 (.pointer (some ⟨b, o, none⟩)) 51).run Tryd.prog w = .ok (.pointer (some ⟨b, o + 180, none⟩)) w := by kernel_rfl
@[go_sem ↓] theorem fa159_52 (b o : Nat) (w : World) : (Instr.fieldAt 159 (.pointer (some ⟨b, o, none⟩)) 52).run Tryd.prog w = .ok (.pointer (some ⟨b, o + 181, none⟩)) w := by kernel_rfl
@[go_sem ↓] theorem fa159_53 (b o : Nat) (w : World) : (Instr.fieldAt 159 (.pointer (some ⟨b, o, none⟩)) 53).run Tryd.prog w = .ok (.pointer (some ⟨b, o + 182, none⟩)) w := by kernel_rfl
@[go_sem ↓] theorem fa159_54 (b o : Nat) (w : World) : (Instr.fieldAt 159 (.pointer (some ⟨b, o, none⟩)) 54).run Tryd.prog w = .ok (.pointer (some ⟨b, o + 183, none⟩)) w := by kernel_rfl
@[go_sem ↓] theorem fa159_55 (b o : Nat) (w : World) : (Instr.fieldAt 159 (.pointer (some ⟨b, o, none⟩)) 55).run Tryd.prog w = .ok (.pointer (some ⟨b, o + 184, none⟩)) w := by kernel_rfl
@[go_sem ↓] theorem fa159_56 (b o : Nat) (w : World) : (Instr.fieldAt 159 (.pointer (some ⟨b, o, none⟩)) 56).run Tryd.prog w = .ok (.pointer (some ⟨b, o + 185, none⟩)) w := by kernel_rfl
@[go_sem ↓] theorem fa159_57 (b o : Nat) (w : World) : (Instr.fieldAt 159 (.pointer (some ⟨b, o, none⟩)) 57).run Tryd.prog w = .ok (.pointer (some ⟨b, o + 186, none⟩)) w := by kernel_rfl
@[go_sem ↓] theorem fa159_58 (b o : Nat) (w : World) : (Instr.fieldAt 159 (.pointer (some ⟨b, o, none⟩)) 58).run Tryd.prog w = .ok (.pointer (some ⟨b, o + 187, none⟩)) w := by kernel_rfl
@[go_sem ↓] theorem fa159_59 (b o : Nat) (w : World) : (Instr.fieldAt 159 (.pointer (some ⟨b, o, none⟩)) 59).run Tryd.prog w = .ok (.pointer (some ⟨b, o + 188, none⟩)) w := by kernel_rfl
@[go_sem ↓] theorem fa159_60 (b o : Nat) (w : World) : (Instr.fieldAt 159 (.pointer (some ⟨b, o, none⟩)) 60).run Tryd.prog w = .ok (.pointer (some ⟨b, o + 190, none⟩)) w := by kernel_rfl
@[go_sem ↓] theorem fa159_61 (b o : Nat) (w : World) : (Instr.fieldAt 159 (.pointer (some ⟨b, o, none⟩)) 61).run Tryd.prog w = .ok (.pointer (some ⟨b, o + 191, none⟩)) w := by kernel_rfl
@[go_sem ↓] theorem fa159_62 (b o : Nat) (w : World) : (Instr.fieldAt 159 (.pointer (some ⟨b, o, none⟩)) 62).run Tryd.prog w = .ok (.pointer (some ⟨b, o + 192, none⟩)) w := by kernel_rfl
@[go_sem ↓] theorem fa159_63 (b o : Nat) (w : World) : (Instr.fieldAt 159 (.pointer (some ⟨b, o, none⟩)) 63).run Tryd.prog w = .ok (.pointer (some ⟨b, o + 196, none⟩)) w := by kernel_rfl
@[go_sem ↓] theorem fa159_64 (b o : Nat) (w : World) : (Instr.fieldAt 159 (.pointer (some ⟨b, o, none⟩)) 64).run Tryd.prog w = .ok (.pointer (some ⟨b, o + 197, none⟩)) w := by kernel_rfl
@[go_sem ↓] theorem fa159_65 (b o : Nat) (w : World) : (Instr.fieldAt 159 (.pointer (some ⟨b, o, none⟩)) 65).run Tryd.prog w = .ok (.pointer (some ⟨b, o + 198, none⟩)) w := by kernel_rfl
@[go_sem ↓] theorem fa159_66 (b o : Nat) (w : World) : (Instr.fieldAt 159 (.pointer (some ⟨b, o, none⟩)) 66).run Tryd.prog w = .ok (.pointer (some ⟨b, o + 199, none⟩)) w := by kernel_rfl
@[go_sem ↓] theorem fa159_67 (b o : Nat) (w : World) : (Instr.fieldAt 159 (.pointer (some ⟨b, o, none⟩)) 67).run Tryd.prog w = .ok (.pointer (some ⟨b, o + 200, none⟩)) w := by kernel_rfl
@[go_sem ↓] theorem fa159_68 (b o : Nat) (w : World) : (Instr.fieldAt 159 (.pointer (some ⟨b, o, none⟩)) 68).run Tryd.prog w = .ok (.pointer (some ⟨b, o + 201, none⟩)) w := by kernel_rfl
@[go_sem ↓] theorem fa159_69 (b o : Nat) (w : World) : (Instr.fieldAt 159 (.pointer (some ⟨b, o, none⟩)) 69).run Tryd.prog w = .ok (.pointer (some ⟨b, o + 286, none⟩)) w := by kernel_rfl
@[go_sem ↓] theorem fa159_70 (b o : Nat) (w : World) : (Instr.fieldAt 159 (.pointer (some ⟨b, o, none⟩)) 70).run Tryd.prog w = .ok (.pointer (some ⟨b, o + 287, none⟩)) w := by kernel_rfl
@[go_sem ↓] theorem fa159_71 (b o : Nat) (w : World) : (Instr.fieldAt 159 (.pointer (some ⟨b, o, none⟩)) 71).run Tryd.prog w = .ok (.pointer (some ⟨b, o + 288, none⟩)) w := by kernel_rfl
@[go_sem ↓] theorem fa159_72 (b o : Nat) (w : World) : (Instr.fieldAt 159 (.pointer (some ⟨b, o, none⟩)) 72).run Tryd.prog w = .ok (.pointer (some ⟨b, o + 289, none⟩)) w := by kernel_rfl
@[go_sem ↓] theorem fa159_73 (b o : Nat) (w : World) : (Instr.fieldAt 159 (.pointer (some ⟨b, o, none⟩)) 73).run Tryd.prog w = .ok (.pointer (some ⟨b, o + 290, none⟩)) w := by kernel_rfl
@[go_sem ↓] theorem fa159_74 (b o : Nat) (w : World) : (Instr.fieldAt 159 (.pointer (some ⟨b, o, none⟩)) 74).run Tryd.prog w = .ok (.pointer (some ⟨b, o + 291, none⟩)) w := by kernel_rfl
@[go_sem ↓] theorem fa159_75 (b o : Nat) (w : World) : (Instr.fieldAt 159 (.pointer (some ⟨b, o, none⟩)) 75).run Tryd.prog w = .ok (.pointer (some ⟨b, o + 292, none⟩)) w := by kernel_rfl
@[go_sem ↓] theorem fa159_76 (b o : Nat) (w : World) : (Instr.fieldAt 159 (.pointer (some ⟨b, o, none⟩)) 76).run Tryd.prog w = .ok (.pointer (some ⟨b, o + 294, none⟩)) w := by kernel_rfl
@[go_sem ↓] theorem fa159_77 (b o : Nat) (w : World) : (Instr.fieldAt 159 (.pointer (some ⟨b, o, none⟩)) 77).run Tryd.prog w = .ok (.pointer (some ⟨b, o + 296, none⟩)) w := by kernel_rfl
@[go_sem ↓] theorem fa159_78 (b o : Nat) (w : World) : (Instr.fieldAt 159 (.pointer (some ⟨b, o, none⟩)) 78).run Tryd.prog w = .ok (.pointer (some ⟨b, o + 298, none⟩)) w := by kernel_rfl
@[go_sem ↓] theorem fa159_79 (b o : Nat) (w : World) : (Instr.fieldAt 159 (.pointer (some ⟨b, o, none⟩)) 79).run Tryd.prog w = .ok (.pointer (some ⟨b, o + 300, none⟩)) w := by kernel_rfl
@[go_sem ↓] theorem fa159_80 (b o : Nat) (w : World) : (Instr.fieldAt 159 (.pointer (some ⟨b, o, none⟩)) 80).run Tryd.prog w = .ok (.pointer (some ⟨b, o + 302, none⟩)) w := by kernel_rfl
@[go_sem ↓] theorem fa159_81 (b o : Nat) (w : World) : (Instr.fieldAt 159 (.pointer (some ⟨b, o, none⟩)) 81).run Tryd.prog w = .ok (.pointer (some ⟨b, o + 304, none⟩)) w := by kernel_rfl
@[go_sem ↓] theorem fa159_82 (b o : Nat) (w : World) : (Instr.fieldAt 159 (.pointer (some ⟨b, o, none⟩)) 82).run Tryd.prog w = .ok (.pointer (some ⟨b, o + 306, none⟩)) w := by kernel_rfl
@[go_sem ↓] theorem fa159_83 (b o : Nat) (w : World) : (Instr.fieldAt 159 (.pointer (some ⟨b, o, none⟩)) 83).run Tryd.prog w = .ok (.pointer (some ⟨b, o + 308, none⟩)) w := by kernel_rfl
@[go_sem ↓] theorem fa159_84 (b o : Nat) (w : World) : (Instr.fieldAt 159 (.pointer (some ⟨b, o, none⟩)) 84).run Tryd.prog w = .ok (.pointer (some ⟨b, o + 309, none⟩)) w := by kernel_rfl
@[go_sem ↓] theorem fa159_85 (b o : Nat) (w : World) : (Instr.fieldAt 159 (.pointer (some ⟨b, o, none⟩)) 85).run Tryd.prog w = .ok (.pointer (some ⟨b, o + 310, none⟩)) w := by kernel_rfl
@[go_sem ↓] theorem fa159_86 (b o : Nat) (w : World) : (Instr.fieldAt 159 (.pointer (some ⟨b, o, none⟩)) 86).run Tryd.prog w = .ok (.pointer (some ⟨b, o + 312, none⟩)) w := by kernel_rfl
@[go_sem ↓] theorem fa159_87 (b o : Nat) (w : World) : (Instr.fieldAt 159 (.pointer (some ⟨b, o, none⟩)) 87).run Tryd.prog w = .ok (.pointer (some ⟨b, o + 314, none⟩)) w := by kernel_rfl
@[go_sem ↓] theorem fa159_88 (b o : Nat) (w : World) : (Instr.fieldAt 159 (.pointer (some ⟨b, o, none⟩)) 88).run Tryd.prog w = .ok (.pointer (some ⟨b, o + 316, none⟩)) w := by kernel_rfl
@[go_sem ↓] theorem fa159_89 (b o : Nat) (w : World) : (Instr.fieldAt 159 (.pointer (some ⟨b, o, none⟩)) 89).run Tryd.prog w = .ok (.pointer (some ⟨b, o + 318, none⟩)) w := by kernel_rfl
@[go_sem ↓] theorem fa159_90 (b o : Nat) (w : World) : (Instr.fieldAt 159 (.pointer (some ⟨b, o, none⟩)) 90).run Tryd.prog w = .ok (.pointer (some ⟨b, o + 320, none⟩)) w := by kernel_rfl
@[go_sem ↓] theorem fa159_91 (b o : Nat) (w : World) : (Instr.fieldAt 159 (.pointer (some ⟨b, o, none⟩)) 91).run Tryd.prog w = .ok (.pointer (some ⟨b, o + 322, none⟩)) w := by kernel_rfl
@[go_sem ↓] theorem fa159_92 (b o : Nat) (w : World) : (Instr.fieldAt 159 (.pointer (some ⟨b, o, none⟩)) 92).run Tryd.prog w = .ok (.pointer (some ⟨b, o + 324, none⟩)) w := by kernel_rfl
@[go_sem ↓] theorem fa159_93 (b o : Nat) (w : World) : (Instr.fieldAt 159 (.pointer (some ⟨b, o, none⟩)) 93).run Tryd.prog w = .ok (.pointer (some ⟨b, o + 326, none⟩)) w := by kernel_rfl
@[go_sem ↓] theorem fa159_94 (b o : Nat) (w : World) : (Instr.fieldAt 159 (.pointer (some ⟨b, o, none⟩)) 94).run Tryd.prog w = .ok (.pointer (some ⟨b, o + 327, none⟩)) w := by kernel_rfl
@[go_sem ↓] theorem fa159_95 (b o : Nat) (w : World) : (Instr.fieldAt 159 (.pointer (some ⟨b, o, none⟩)) 95).run Tryd.prog w = .ok (.pointer (some ⟨b, o + 328, none⟩)) w := by kernel_rfl
@[go_sem ↓] theorem fa159_96 (b o : Nat) (w : World) : (Instr.fieldAt 159 (.pointer (some ⟨b, o, none⟩)) 96).run Tryd.prog w = .ok (.pointer (some ⟨b, o + 329, none⟩)) w := by kernel_rfl
@[go_sem ↓] theorem fa159_97 (b o : Nat) (w : World) : (Instr.fieldAt 159 (.pointer (some ⟨b, o, none⟩)) 97).run Tryd.prog w = .ok (.pointer (some ⟨b, o + 339, none⟩)) w := by kernel_rfl
@[go_sem ↓] theorem fa159_98 (b o : Nat) (w : World) : (Instr.fieldAt 159 (.pointer (some ⟨b, o, none⟩)) 98).run Tryd.prog w = .ok (.pointer (some ⟨b, o + 340, none⟩)) w := by kernel_rfl
@[go_sem ↓] theorem fa159_99 (b o : Nat) (w : World) : (Instr.fieldAt 159 (.pointer (some ⟨b, o, none⟩)) 99).run Tryd.prog w = .ok (.pointer (some ⟨b, o + 341, none⟩)) w := by kernel_rfl
@[go_sem ↓] theorem fa159_100 (b o : Nat) (w : World) : (Instr.fieldAt 159 (.pointer (some ⟨b, o, none⟩)) 100).run Tryd.prog w = .ok (.pointer (some ⟨b, o + 342, none⟩)) w := by kernel_rfl
@[go_sem ↓] theorem fa159_101 (b o : Nat) (w : World) : (Instr.fieldAt 159 (.pointer (some ⟨b, o, none⟩)) 101).run Tryd.prog w = .ok (.pointer (some ⟨b, o + 343, none⟩)) w := by kernel_rfl
@[go_sem ↓] theorem fa159_102 (b o : Nat) (w : World) : (Instr.fieldAt 159 (.pointer (some ⟨b, o, none⟩)) 102).run Tryd.prog w = .ok (.pointer (some ⟨b, o + 344, none⟩)) w := by kernel_rfl
@[go_sem ↓] theorem fa159_103 (b o : Nat) (w : World) : (Instr.fieldAt 159 (.pointer (some ⟨b, o, none⟩)) 103).run Tryd.prog w = .ok (.pointer (some ⟨b, o + 345, none⟩)) w := by kernel_rfl
@[go_sem ↓] theorem fa159_104 (b o : Nat) (w : World) : (Instr.fieldAt 159 (.pointer (some ⟨b, o, none⟩)) 104).run Tryd.prog w = .ok (.pointer (some ⟨b, o + 346, none⟩)) w := by kernel_rfl
@[go_sem ↓] theorem fa159_105 (b o : Nat) (w : World) : (Instr.fieldAt 159 (.pointer (some ⟨b, o, none⟩)) 105).run Tryd.prog w = .ok (.pointer (some ⟨b, o + 347, none⟩)) w := by kernel_rfl
@[go_sem ↓] theorem fa159_106 (b o : Nat) (w : World) : (Instr.fieldAt 159 (.pointer (some ⟨b, o, none⟩)) 106).run Tryd.prog w = .ok (.pointer (some ⟨b, o + 348, none⟩)) w := by kernel_rfl
@[go_sem ↓] theorem fa159_107 (b o : Nat) (w : World) : (Instr.fieldAt 159 (.pointer (some ⟨b, o, none⟩)) 107).run Tryd.prog w = .ok (.pointer (some ⟨b, o + 349, none⟩)) w := by kernel_rfl
@[go_sem ↓] theorem fa159_108 (b o : Nat) (w : World) : (Instr.fieldAt 159 (.pointer (some ⟨b, o, none⟩)) 108).run Tryd.prog w = .ok (.pointer (some ⟨b, o + 350, none⟩)) w := by kernel_rfl
@[go_sem ↓] theorem fa159_109 (b o : Nat) (w : World) : (Instr.fieldAt 159 (.pointer (some ⟨b, o, none⟩)) 109).run Tryd.prog w = .ok (.pointer (some ⟨b, o + 351, none⟩)) w := by kernel_rfl
@[go_sem ↓] theorem fa159_110 (b o : Nat) (w : World) : (Instr.fieldAt 159 (.pointer (some ⟨b, o, none⟩)) 110).run Tryd.prog w = .ok (.pointer (some ⟨b, o + 352, none⟩)) w := by kernel_rfl

end Go.Proofs.YtncmpgoggagdbadDoor
