/-
  The struct types of many fields: the zero value's cells behind a name, where each field lies, what each zero cell holds.
-/
import Derived.Test.YthmfjhadkmeldacFmtKit
namespace Go.Proofs.YthmfjhadkmeldacFmt
set_option maxRecDepth 100000

noncomputable def PZ178 : Array Value := match (Tryf.prog.info? 178).bind (·.zero) with | some (.agg c) => c | _ => #[]
@[go_sem ↓] theorem zv178 (w : World) : (zeroValue 178).run Tryf.prog w = .ok (.agg PZ178) w := by kernel_rfl
@[simp, go_sem] theorem PZ178_size : PZ178.size = 353 := by kernel_rfl
@[simp, go_sem] theorem PZ178_0 : PZ178[0]? = some (.slice none 0 0) := by kernel_rfl
@[simp, go_sem] theorem PZ178_1 : PZ178[1]? = some (.nilIface) := by kernel_rfl
@[simp, go_sem] theorem PZ178_2 : PZ178[2]? = some (.slice none 0 0) := by kernel_rfl
@[simp, go_sem] theorem PZ178_3 : PZ178[3]? = some (.int .u32 0) := by kernel_rfl
@[simp, go_sem] theorem PZ178_4 : PZ178[4]? = some (.nilIface) := by kernel_rfl
@[simp, go_sem] theorem PZ178_5 : PZ178[5]? = some (.slice none 0 0) := by kernel_rfl
@[simp, go_sem] theorem PZ178_6 : PZ178[6]? = some (.int .u32 0) := by kernel_rfl
@[simp, go_sem] theorem PZ178_7 : PZ178[7]? = some (.bool false) := by kernel_rfl
@[simp, go_sem] theorem PZ178_8 : PZ178[8]? = some (.bool false) := by kernel_rfl
@[simp, go_sem] theorem PZ178_9 : PZ178[9]? = some (.bool false) := by kernel_rfl
@[simp, go_sem] theorem PZ178_10 : PZ178[10]? = some (.string ⟨#[]⟩) := by kernel_rfl
@[simp, go_sem] theorem PZ178_11 : PZ178[11]? = some (.bool false) := by kernel_rfl
@[simp, go_sem] theorem PZ178_12 : PZ178[12]? = some (.bool false) := by kernel_rfl
@[simp, go_sem] theorem PZ178_13 : PZ178[13]? = some (.pointer none) := by kernel_rfl
@[simp, go_sem] theorem PZ178_14 : PZ178[14]? = some (.pointer none) := by kernel_rfl
@[simp, go_sem] theorem PZ178_15 : PZ178[15]? = some (.pointer none) := by kernel_rfl
@[simp, go_sem] theorem PZ178_16 : PZ178[16]? = some (.slice none 0 0) := by kernel_rfl
@[simp, go_sem] theorem PZ178_17 : PZ178[17]? = some (.pointer none) := by kernel_rfl
@[simp, go_sem] theorem PZ178_18 : PZ178[18]? = some (.string ⟨#[]⟩) := by kernel_rfl
@[simp, go_sem] theorem PZ178_19 : PZ178[19]? = some (.pointer none) := by kernel_rfl
@[simp, go_sem] theorem PZ178_20 : PZ178[20]? = some (.int .i32 0) := by kernel_rfl
@[simp, go_sem] theorem PZ178_21 : PZ178[21]? = some (.int .i32 0) := by kernel_rfl
@[simp, go_sem] theorem PZ178_22 : PZ178[22]? = some (.int .u8 0) := by kernel_rfl
@[simp, go_sem] theorem PZ178_23 : PZ178[23]? = some (.int .u64 0) := by kernel_rfl
@[simp, go_sem] theorem PZ178_24 : PZ178[24]? = some (.int .u64 0) := by kernel_rfl
@[simp, go_sem] theorem PZ178_25 : PZ178[25]? = some (.int .u64 0) := by kernel_rfl
@[simp, go_sem] theorem PZ178_26 : PZ178[26]? = some (.int .u8 0) := by kernel_rfl
@[simp, go_sem] theorem PZ178_27 : PZ178[27]? = some (.int .u8 0) := by kernel_rfl
@[simp, go_sem] theorem PZ178_28 : PZ178[28]? = some (.int .u8 0) := by kernel_rfl
@[simp, go_sem] theorem PZ178_29 : PZ178[29]? = some (.int .u8 0) := by kernel_rfl
@[simp, go_sem] theorem PZ178_30 : PZ178[30]? = some (.int .u8 0) := by kernel_rfl
@[simp, go_sem] theorem PZ178_31 : PZ178[31]? = some (.int .u8 0) := by kernel_rfl
@[simp, go_sem] theorem PZ178_32 : PZ178[32]? = some (.bool false) := by kernel_rfl
@[simp, go_sem] theorem PZ178_33 : PZ178[33]? = some (.bool false) := by kernel_rfl
@[simp, go_sem] theorem PZ178_34 : PZ178[34]? = some (.int .u8 0) := by kernel_rfl
@[simp, go_sem] theorem PZ178_35 : PZ178[35]? = some (.int .u8 0) := by kernel_rfl
@[simp, go_sem] theorem PZ178_36 : PZ178[36]? = some (.int .u8 0) := by kernel_rfl
@[simp, go_sem] theorem PZ178_37 : PZ178[37]? = some (.int .u8 0) := by kernel_rfl
@[simp, go_sem] theorem PZ178_38 : PZ178[38]? = some (.int .u8 0) := by kernel_rfl
@[simp, go_sem] theorem PZ178_39 : PZ178[39]? = some (.bool false) := by kernel_rfl
@[simp, go_sem] theorem PZ178_40 : PZ178[40]? = some (.bool false) := by kernel_rfl
@[simp, go_sem] theorem PZ178_41 : PZ178[41]? = some (.bool false) := by kernel_rfl
@[simp, go_sem] theorem PZ178_42 : PZ178[42]? = some (.bool false) := by kernel_rfl
@[simp, go_sem] theorem PZ178_43 : PZ178[43]? = some (.bool false) := by kernel_rfl
@[simp, go_sem] theorem PZ178_44 : PZ178[44]? = some (.bool false) := by kernel_rfl
@[simp, go_sem] theorem PZ178_45 : PZ178[45]? = some (.bool false) := by kernel_rfl
@[simp, go_sem] theorem PZ178_46 : PZ178[46]? = some (.bool false) := by kernel_rfl
@[simp, go_sem] theorem PZ178_47 : PZ178[47]? = some (.bool false) := by kernel_rfl
@[simp, go_sem] theorem PZ178_48 : PZ178[48]? = some (.bool false) := by kernel_rfl
@[simp, go_sem] theorem PZ178_49 : PZ178[49]? = some (.bool false) := by kernel_rfl
@[simp, go_sem] theorem PZ178_50 : PZ178[50]? = some (.bool false) := by kernel_rfl
@[simp, go_sem] theorem PZ178_51 : PZ178[51]? = some (.nilFunc) := by kernel_rfl
@[simp, go_sem] theorem PZ178_52 : PZ178[52]? = some (.nilFunc) := by kernel_rfl
@[simp, go_sem] theorem PZ178_53 : PZ178[53]? = some (.nilFunc) := by kernel_rfl
@[simp, go_sem] theorem PZ178_54 : PZ178[54]? = some (.nilFunc) := by kernel_rfl
@[simp, go_sem] theorem PZ178_55 : PZ178[55]? = some (.int .i8 0) := by kernel_rfl
@[simp, go_sem] theorem PZ178_56 : PZ178[56]? = some (.map none) := by kernel_rfl
@[simp, go_sem] theorem PZ178_57 : PZ178[57]? = some (.string ⟨#[]⟩) := by kernel_rfl
@[simp, go_sem] theorem PZ178_58 : PZ178[58]? = some (.string ⟨#[]⟩) := by kernel_rfl
@[simp, go_sem] theorem PZ178_59 : PZ178[59]? = some (.string ⟨#[]⟩) := by kernel_rfl
@[simp, go_sem] theorem PZ178_60 : PZ178[60]? = some (.string ⟨#[]⟩) := by kernel_rfl
@[simp, go_sem] theorem PZ178_61 : PZ178[61]? = some (.string ⟨#[]⟩) := by kernel_rfl
@[simp, go_sem] theorem PZ178_62 : PZ178[62]? = some (.string ⟨#[]⟩) := by kernel_rfl
@[simp, go_sem] theorem PZ178_63 : PZ178[63]? = some (.string ⟨#[]⟩) := by kernel_rfl
@[simp, go_sem] theorem PZ178_64 : PZ178[64]? = some (.string ⟨#[]⟩) := by kernel_rfl
@[simp, go_sem] theorem PZ178_65 : PZ178[65]? = some (.int .u8 0) := by kernel_rfl
@[simp, go_sem] theorem PZ178_66 : PZ178[66]? = some (.int .u32 0) := by kernel_rfl
@[simp, go_sem] theorem PZ178_67 : PZ178[67]? = some (.string ⟨#[]⟩) := by kernel_rfl
@[simp, go_sem] theorem PZ178_68 : PZ178[68]? = some (.string ⟨#[]⟩) := by kernel_rfl
@[simp, go_sem] theorem PZ178_69 : PZ178[69]? = some (.string ⟨#[]⟩) := by kernel_rfl
@[simp, go_sem] theorem PZ178_70 : PZ178[70]? = some (.int .i32 0) := by kernel_rfl
@[simp, go_sem] theorem PZ178_71 : PZ178[71]? = some (.int .i32 0) := by kernel_rfl
@[simp, go_sem] theorem PZ178_72 : PZ178[72]? = some (.int .i32 0) := by kernel_rfl
@[simp, go_sem] theorem PZ178_73 : PZ178[73]? = some (.int .i32 0) := by kernel_rfl
@[simp, go_sem] theorem PZ178_74 : PZ178[74]? = some (.bool false) := by kernel_rfl
@[simp, go_sem] theorem PZ178_75 : PZ178[75]? = some (.bool false) := by kernel_rfl
@[simp, go_sem] theorem PZ178_76 : PZ178[76]? = some (.bool false) := by kernel_rfl
@[simp, go_sem] theorem PZ178_77 : PZ178[77]? = some (.pointer none) := by kernel_rfl
@[simp, go_sem] theorem PZ178_78 : PZ178[78]? = some (.pointer none) := by kernel_rfl
@[simp, go_sem] theorem PZ178_79 : PZ178[79]? = some (.int .i32 0) := by kernel_rfl
@[simp, go_sem] theorem PZ178_80 : PZ178[80]? = some (.int .i32 0) := by kernel_rfl
@[simp, go_sem] theorem PZ178_81 : PZ178[81]? = some (.int .i32 0) := by kernel_rfl
@[simp, go_sem] theorem PZ178_82 : PZ178[82]? = some (.int .u8 0) := by kernel_rfl
@[simp, go_sem] theorem PZ178_83 : PZ178[83]? = some (.int .u8 0) := by kernel_rfl
@[simp, go_sem] theorem PZ178_84 : PZ178[84]? = some (.bool false) := by kernel_rfl
@[simp, go_sem] theorem PZ178_85 : PZ178[85]? = some (.bool false) := by kernel_rfl
@[simp, go_sem] theorem PZ178_86 : PZ178[86]? = some (.bool false) := by kernel_rfl
@[simp, go_sem] theorem PZ178_87 : PZ178[87]? = some (.bool false) := by kernel_rfl
@[simp, go_sem] theorem PZ178_88 : PZ178[88]? = some (.bool false) := by kernel_rfl
@[simp, go_sem] theorem PZ178_89 : PZ178[89]? = some (.bool false) := by kernel_rfl
@[simp, go_sem] theorem PZ178_90 : PZ178[90]? = some (.bool false) := by kernel_rfl
@[simp, go_sem] theorem PZ178_91 : PZ178[91]? = some (.bool false) := by kernel_rfl
@[simp, go_sem] theorem PZ178_92 : PZ178[92]? = some (.pointer none) := by kernel_rfl
@[simp, go_sem] theorem PZ178_93 : PZ178[93]? = some (.pointer none) := by kernel_rfl
@[simp, go_sem] theorem PZ178_94 : PZ178[94]? = some (.pointer none) := by kernel_rfl
@[simp, go_sem] theorem PZ178_95 : PZ178[95]? = some (.bool false) := by kernel_rfl
@[simp, go_sem] theorem PZ178_96 : PZ178[96]? = some (.bool false) := by kernel_rfl
@[simp, go_sem] theorem PZ178_97 : PZ178[97]? = some (.pointer none) := by kernel_rfl
@[simp, go_sem] theorem PZ178_98 : PZ178[98]? = some (.bool false) := by kernel_rfl
@[simp, go_sem] theorem PZ178_99 : PZ178[99]? = some (.bool false) := by kernel_rfl
@[simp, go_sem] theorem PZ178_100 : PZ178[100]? = some (.bool false) := by kernel_rfl
@[simp, go_sem] theorem PZ178_101 : PZ178[101]? = some (.bool false) := by kernel_rfl
@[simp, go_sem] theorem PZ178_102 : PZ178[102]? = some (.bool false) := by kernel_rfl
@[simp, go_sem] theorem PZ178_103 : PZ178[103]? = some (.slice none 0 0) := by kernel_rfl
@[simp, go_sem] theorem PZ178_104 : PZ178[104]? = some (.pointer none) := by kernel_rfl
@[simp, go_sem] theorem PZ178_105 : PZ178[105]? = some (.pointer none) := by kernel_rfl
@[simp, go_sem] theorem PZ178_106 : PZ178[106]? = some (.slice none 0 0) := by kernel_rfl
@[simp, go_sem] theorem PZ178_107 : PZ178[107]? = some (.nilFunc) := by kernel_rfl
@[simp, go_sem] theorem PZ178_108 : PZ178[108]? = some (.slice none 0 0) := by kernel_rfl
@[simp, go_sem] theorem PZ178_109 : PZ178[109]? = some (.slice none 0 0) := by kernel_rfl
@[simp, go_sem] theorem PZ178_110 : PZ178[110]? = some (.map none) := by kernel_rfl
@[simp, go_sem] theorem PZ178_111 : PZ178[111]? = some (.map none) := by kernel_rfl
@[simp, go_sem] theorem PZ178_112 : PZ178[112]? = some (.map none) := by kernel_rfl
@[simp, go_sem] theorem PZ178_113 : PZ178[113]? = some (.map none) := by kernel_rfl
@[simp, go_sem] theorem PZ178_114 : PZ178[114]? = some (.map none) := by kernel_rfl
@[simp, go_sem] theorem PZ178_115 : PZ178[115]? = some (.map none) := by kernel_rfl
@[simp, go_sem] theorem PZ178_116 : PZ178[116]? = some (.slice none 0 0) := by kernel_rfl
@[simp, go_sem] theorem PZ178_117 : PZ178[117]? = some (.map none) := by kernel_rfl
@[simp, go_sem] theorem PZ178_118 : PZ178[118]? = some (.slice none 0 0) := by kernel_rfl
@[simp, go_sem] theorem PZ178_119 : PZ178[119]? = some (.int .u8 0) := by kernel_rfl
@[simp, go_sem] theorem PZ178_120 : PZ178[120]? = some (.int .u8 0) := by kernel_rfl
@[simp, go_sem] theorem PZ178_121 : PZ178[121]? = some (.int .u8 0) := by kernel_rfl
@[simp, go_sem] theorem PZ178_122 : PZ178[122]? = some (.int .u8 0) := by kernel_rfl
@[simp, go_sem] theorem PZ178_123 : PZ178[123]? = some (.int .u8 0) := by kernel_rfl
@[simp, go_sem] theorem PZ178_124 : PZ178[124]? = some (.int .u8 0) := by kernel_rfl
@[simp, go_sem] theorem PZ178_125 : PZ178[125]? = some (.int .u8 0) := by kernel_rfl
@[simp, go_sem] theorem PZ178_126 : PZ178[126]? = some (.int .u8 0) := by kernel_rfl
@[simp, go_sem] theorem PZ178_127 : PZ178[127]? = some (.int .u8 0) := by kernel_rfl
@[simp, go_sem] theorem PZ178_128 : PZ178[128]? = some (.int .u8 0) := by kernel_rfl
@[simp, go_sem] theorem PZ178_129 : PZ178[129]? = some (.int .u8 0) := by kernel_rfl
@[simp, go_sem] theorem PZ178_130 : PZ178[130]? = some (.int .u8 0) := by kernel_rfl
@[simp, go_sem] theorem PZ178_131 : PZ178[131]? = some (.int .u8 0) := by kernel_rfl
@[simp, go_sem] theorem PZ178_132 : PZ178[132]? = some (.int .u8 0) := by kernel_rfl
@[simp, go_sem] theorem PZ178_133 : PZ178[133]? = some (.int .u8 0) := by kernel_rfl
@[simp, go_sem] theorem PZ178_134 : PZ178[134]? = some (.int .u8 0) := by kernel_rfl
@[simp, go_sem] theorem PZ178_135 : PZ178[135]? = some (.int .u8 0) := by kernel_rfl
@[simp, go_sem] theorem PZ178_136 : PZ178[136]? = some (.int .u8 0) := by kernel_rfl
@[simp, go_sem] theorem PZ178_137 : PZ178[137]? = some (.int .u8 0) := by kernel_rfl
@[simp, go_sem] theorem PZ178_138 : PZ178[138]? = some (.int .u8 0) := by kernel_rfl
@[simp, go_sem] theorem PZ178_139 : PZ178[139]? = some (.int .u8 0) := by kernel_rfl
@[simp, go_sem] theorem PZ178_140 : PZ178[140]? = some (.int .u8 0) := by kernel_rfl
@[simp, go_sem] theorem PZ178_141 : PZ178[141]? = some (.int .u8 0) := by kernel_rfl
@[simp, go_sem] theorem PZ178_142 : PZ178[142]? = some (.int .u8 0) := by kernel_rfl
@[simp, go_sem] theorem PZ178_143 : PZ178[143]? = some (.int .u8 0) := by kernel_rfl
@[simp, go_sem] theorem PZ178_144 : PZ178[144]? = some (.int .u8 0) := by kernel_rfl
@[simp, go_sem] theorem PZ178_145 : PZ178[145]? = some (.int .u8 0) := by kernel_rfl
@[simp, go_sem] theorem PZ178_146 : PZ178[146]? = some (.int .u8 0) := by kernel_rfl
@[simp, go_sem] theorem PZ178_147 : PZ178[147]? = some (.int .u8 0) := by kernel_rfl
@[simp, go_sem] theorem PZ178_148 : PZ178[148]? = some (.int .u8 0) := by kernel_rfl
@[simp, go_sem] theorem PZ178_149 : PZ178[149]? = some (.int .u8 0) := by kernel_rfl
@[simp, go_sem] theorem PZ178_150 : PZ178[150]? = some (.int .u8 0) := by kernel_rfl
@[simp, go_sem] theorem PZ178_151 : PZ178[151]? = some (.map none) := by kernel_rfl
@[simp, go_sem] theorem PZ178_152 : PZ178[152]? = some (.map none) := by kernel_rfl
@[simp, go_sem] theorem PZ178_153 : PZ178[153]? = some (.map none) := by kernel_rfl
@[simp, go_sem] theorem PZ178_154 : PZ178[154]? = some (.slice none 0 0) := by kernel_rfl
@[simp, go_sem] theorem PZ178_155 : PZ178[155]? = some (.map none) := by kernel_rfl
@[simp, go_sem] theorem PZ178_156 : PZ178[156]? = some (.map none) := by kernel_rfl
@[simp, go_sem] theorem PZ178_157 : PZ178[157]? = some (.map none) := by kernel_rfl
@[simp, go_sem] theorem PZ178_158 : PZ178[158]? = some (.map none) := by kernel_rfl
@[simp, go_sem] theorem PZ178_159 : PZ178[159]? = some (.nilIface) := by kernel_rfl
@[simp, go_sem] theorem PZ178_160 : PZ178[160]? = some (.nilIface) := by kernel_rfl
@[simp, go_sem] theorem PZ178_161 : PZ178[161]? = some (.map none) := by kernel_rfl
@[simp, go_sem] theorem PZ178_162 : PZ178[162]? = some (.map none) := by kernel_rfl
@[simp, go_sem] theorem PZ178_163 : PZ178[163]? = some (.map none) := by kernel_rfl
@[simp, go_sem] theorem PZ178_164 : PZ178[164]? = some (.map none) := by kernel_rfl
@[simp, go_sem] theorem PZ178_165 : PZ178[165]? = some (.map none) := by kernel_rfl
@[simp, go_sem] theorem PZ178_166 : PZ178[166]? = some (.nilIface) := by kernel_rfl
@[simp, go_sem] theorem PZ178_167 : PZ178[167]? = some (.pointer none) := by kernel_rfl
@[simp, go_sem] theorem PZ178_168 : PZ178[168]? = some (.pointer none) := by kernel_rfl
@[simp, go_sem] theorem PZ178_169 : PZ178[169]? = some (.slice none 0 0) := by kernel_rfl
@[simp, go_sem] theorem PZ178_170 : PZ178[170]? = some (.slice none 0 0) := by kernel_rfl
@[simp, go_sem] theorem PZ178_171 : PZ178[171]? = some (.map none) := by kernel_rfl
@[simp, go_sem] theorem PZ178_172 : PZ178[172]? = some (.map none) := by kernel_rfl
@[simp, go_sem] theorem PZ178_173 : PZ178[173]? = some (.map none) := by kernel_rfl
@[simp, go_sem] theorem PZ178_174 : PZ178[174]? = some (.map none) := by kernel_rfl
@[simp, go_sem] theorem PZ178_175 : PZ178[175]? = some (.map none) := by kernel_rfl
@[simp, go_sem] theorem PZ178_176 : PZ178[176]? = some (.map none) := by kernel_rfl
@[simp, go_sem] theorem PZ178_177 : PZ178[177]? = some (.slice none 0 0) := by kernel_rfl
@[simp, go_sem] theorem PZ178_178 : PZ178[178]? = some (.string ⟨#[]⟩) := by kernel_rfl
@[simp, go_sem] theorem PZ178_179 : PZ178[179]? = some (.nilIface) := by kernel_rfl
@[simp, go_sem] theorem PZ178_180 : PZ178[180]? = some (.nilIface) := by kernel_rfl
@[simp, go_sem] theorem PZ178_181 : PZ178[181]? = some (.nilIface) := by kernel_rfl
@[simp, go_sem] theorem PZ178_182 : PZ178[182]? = some (.nilIface) := by kernel_rfl
@[simp, go_sem] theorem PZ178_183 : PZ178[183]? = some (.nilIface) := by kernel_rfl
@[simp, go_sem] theorem PZ178_184 : PZ178[184]? = some (.nilIface) := by kernel_rfl
@[simp, go_sem] theorem PZ178_185 : PZ178[185]? = some (.nilIface) := by kernel_rfl
@[simp, go_sem] theorem PZ178_186 : PZ178[186]? = some (.nilIface) := by kernel_rfl
@[simp, go_sem] theorem PZ178_187 : PZ178[187]? = some (.pointer none) := by kernel_rfl
@[simp, go_sem] theorem PZ178_188 : PZ178[188]? = some (.nilIface) := by kernel_rfl
@[simp, go_sem] theorem PZ178_189 : PZ178[189]? = some (.int .i32 0) := by kernel_rfl
@[simp, go_sem] theorem PZ178_190 : PZ178[190]? = some (.map none) := by kernel_rfl
@[simp, go_sem] theorem PZ178_191 : PZ178[191]? = some (.nilIface) := by kernel_rfl
@[simp, go_sem] theorem PZ178_192 : PZ178[192]? = some (.nilIface) := by kernel_rfl
@[simp, go_sem] theorem PZ178_193 : PZ178[193]? = some (.int .i32 0) := by kernel_rfl
@[simp, go_sem] theorem PZ178_194 : PZ178[194]? = some (.bool false) := by kernel_rfl
@[simp, go_sem] theorem PZ178_195 : PZ178[195]? = some (.bool false) := by kernel_rfl
@[simp, go_sem] theorem PZ178_196 : PZ178[196]? = some (.slice none 0 0) := by kernel_rfl
@[simp, go_sem] theorem PZ178_197 : PZ178[197]? = some (.map none) := by kernel_rfl
@[simp, go_sem] theorem PZ178_198 : PZ178[198]? = some (.slice none 0 0) := by kernel_rfl
@[simp, go_sem] theorem PZ178_199 : PZ178[199]? = some (.slice none 0 0) := by kernel_rfl
@[simp, go_sem] theorem PZ178_200 : PZ178[200]? = some (.slice none 0 0) := by kernel_rfl
@[simp, go_sem] theorem PZ178_201 : PZ178[201]? = some (.slice none 0 0) := by kernel_rfl
@[simp, go_sem] theorem PZ178_202 : PZ178[202]? = some (.slice none 0 0) := by kernel_rfl
@[simp, go_sem] theorem PZ178_203 : PZ178[203]? = some (.slice none 0 0) := by kernel_rfl
@[simp, go_sem] theorem PZ178_204 : PZ178[204]? = some (.string ⟨#[]⟩) := by kernel_rfl
@[simp, go_sem] theorem PZ178_205 : PZ178[205]? = some (.int .u32 0) := by kernel_rfl
@[simp, go_sem] theorem PZ178_206 : PZ178[206]? = some (.nilFunc) := by kernel_rfl
@[simp, go_sem] theorem PZ178_207 : PZ178[207]? = some (.nilFunc) := by kernel_rfl
@[simp, go_sem] theorem PZ178_208 : PZ178[208]? = some (.nilFunc) := by kernel_rfl
@[simp, go_sem] theorem PZ178_209 : PZ178[209]? = some (.nilFunc) := by kernel_rfl
@[simp, go_sem] theorem PZ178_210 : PZ178[210]? = some (.int .i8 0) := by kernel_rfl
@[simp, go_sem] theorem PZ178_211 : PZ178[211]? = some (.map none) := by kernel_rfl
@[simp, go_sem] theorem PZ178_212 : PZ178[212]? = some (.string ⟨#[]⟩) := by kernel_rfl
@[simp, go_sem] theorem PZ178_213 : PZ178[213]? = some (.string ⟨#[]⟩) := by kernel_rfl
@[simp, go_sem] theorem PZ178_214 : PZ178[214]? = some (.string ⟨#[]⟩) := by kernel_rfl
@[simp, go_sem] theorem PZ178_215 : PZ178[215]? = some (.string ⟨#[]⟩) := by kernel_rfl
@[simp, go_sem] theorem PZ178_216 : PZ178[216]? = some (.string ⟨#[]⟩) := by kernel_rfl
@[simp, go_sem] theorem PZ178_217 : PZ178[217]? = some (.string ⟨#[]⟩) := by kernel_rfl
@[simp, go_sem] theorem PZ178_218 : PZ178[218]? = some (.string ⟨#[]⟩) := by kernel_rfl
@[simp, go_sem] theorem PZ178_219 : PZ178[219]? = some (.string ⟨#[]⟩) := by kernel_rfl
@[simp, go_sem] theorem PZ178_220 : PZ178[220]? = some (.int .u8 0) := by kernel_rfl
@[simp, go_sem] theorem PZ178_221 : PZ178[221]? = some (.int .u32 0) := by kernel_rfl
@[simp, go_sem] theorem PZ178_222 : PZ178[222]? = some (.string ⟨#[]⟩) := by kernel_rfl
@[simp, go_sem] theorem PZ178_223 : PZ178[223]? = some (.int .i32 0) := by kernel_rfl
@[simp, go_sem] theorem PZ178_224 : PZ178[224]? = some (.int .i32 0) := by kernel_rfl
@[simp, go_sem] theorem PZ178_225 : PZ178[225]? = some (.string ⟨#[]⟩) := by kernel_rfl
@[simp, go_sem] theorem PZ178_226 : PZ178[226]? = some (.int .i32 0) := by kernel_rfl
@[simp, go_sem] theorem PZ178_227 : PZ178[227]? = some (.int .i32 0) := by kernel_rfl
@[simp, go_sem] theorem PZ178_228 : PZ178[228]? = some (.string ⟨#[]⟩) := by kernel_rfl
@[simp, go_sem] theorem PZ178_229 : PZ178[229]? = some (.int .i32 0) := by kernel_rfl
@[simp, go_sem] theorem PZ178_230 : PZ178[230]? = some (.int .i32 0) := by kernel_rfl
@[simp, go_sem] theorem PZ178_231 : PZ178[231]? = some (.string ⟨#[]⟩) := by kernel_rfl
@[simp, go_sem] theorem PZ178_232 : PZ178[232]? = some (.int .i32 0) := by kernel_rfl
@[simp, go_sem] theorem PZ178_233 : PZ178[233]? = some (.int .i32 0) := by kernel_rfl
@[simp, go_sem] theorem PZ178_234 : PZ178[234]? = some (.string ⟨#[]⟩) := by kernel_rfl
@[simp, go_sem] theorem PZ178_235 : PZ178[235]? = some (.int .i32 0) := by kernel_rfl
@[simp, go_sem] theorem PZ178_236 : PZ178[236]? = some (.int .i32 0) := by kernel_rfl
@[simp, go_sem] theorem PZ178_237 : PZ178[237]? = some (.string ⟨#[]⟩) := by kernel_rfl
@[simp, go_sem] theorem PZ178_238 : PZ178[238]? = some (.slice none 0 0) := by kernel_rfl
@[simp, go_sem] theorem PZ178_239 : PZ178[239]? = some (.string ⟨#[]⟩) := by kernel_rfl
@[simp, go_sem] theorem PZ178_240 : PZ178[240]? = some (.string ⟨#[]⟩) := by kernel_rfl
@[simp, go_sem] theorem PZ178_241 : PZ178[241]? = some (.string ⟨#[]⟩) := by kernel_rfl
@[simp, go_sem] theorem PZ178_242 : PZ178[242]? = some (.string ⟨#[]⟩) := by kernel_rfl
@[simp, go_sem] theorem PZ178_243 : PZ178[243]? = some (.string ⟨#[]⟩) := by kernel_rfl
@[simp, go_sem] theorem PZ178_244 : PZ178[244]? = some (.int .i32 0) := by kernel_rfl
@[simp, go_sem] theorem PZ178_245 : PZ178[245]? = some (.int .i32 0) := by kernel_rfl
@[simp, go_sem] theorem PZ178_246 : PZ178[246]? = some (.int .i32 0) := by kernel_rfl
@[simp, go_sem] theorem PZ178_247 : PZ178[247]? = some (.int .i32 0) := by kernel_rfl
@[simp, go_sem] theorem PZ178_248 : PZ178[248]? = some (.bool false) := by kernel_rfl
@[simp, go_sem] theorem PZ178_249 : PZ178[249]? = some (.bool false) := by kernel_rfl
@[simp, go_sem] theorem PZ178_250 : PZ178[250]? = some (.bool false) := by kernel_rfl
@[simp, go_sem] theorem PZ178_251 : PZ178[251]? = some (.int .i64 0) := by kernel_rfl
@[simp, go_sem] theorem PZ178_252 : PZ178[252]? = some (.float .f64 0) := by kernel_rfl
@[simp, go_sem] theorem PZ178_253 : PZ178[253]? = some (.int .i64 0) := by kernel_rfl
@[simp, go_sem] theorem PZ178_254 : PZ178[254]? = some (.int .i64 0) := by kernel_rfl
@[simp, go_sem] theorem PZ178_255 : PZ178[255]? = some (.int .i64 0) := by kernel_rfl
@[simp, go_sem] theorem PZ178_256 : PZ178[256]? = some (.int .i64 0) := by kernel_rfl
@[simp, go_sem] theorem PZ178_257 : PZ178[257]? = some (.int .i64 0) := by kernel_rfl
@[simp, go_sem] theorem PZ178_258 : PZ178[258]? = some (.int .i32 0) := by kernel_rfl
@[simp, go_sem] theorem PZ178_259 : PZ178[259]? = some (.int .i32 0) := by kernel_rfl
@[simp, go_sem] theorem PZ178_260 : PZ178[260]? = some (.int .i32 0) := by kernel_rfl
@[simp, go_sem] theorem PZ178_261 : PZ178[261]? = some (.int .i32 0) := by kernel_rfl
@[simp, go_sem] theorem PZ178_262 : PZ178[262]? = some (.int .i32 0) := by kernel_rfl
@[simp, go_sem] theorem PZ178_263 : PZ178[263]? = some (.int .i32 0) := by kernel_rfl
@[simp, go_sem] theorem PZ178_264 : PZ178[264]? = some (.int .i32 0) := by kernel_rfl
@[simp, go_sem] theorem PZ178_265 : PZ178[265]? = some (.int .i32 0) := by kernel_rfl
@[simp, go_sem] theorem PZ178_266 : PZ178[266]? = some (.int .i32 0) := by kernel_rfl
@[simp, go_sem] theorem PZ178_267 : PZ178[267]? = some (.int .i32 0) := by kernel_rfl
@[simp, go_sem] theorem PZ178_268 : PZ178[268]? = some (.int .i32 0) := by kernel_rfl
@[simp, go_sem] theorem PZ178_269 : PZ178[269]? = some (.int .u8 0) := by kernel_rfl
@[simp, go_sem] theorem PZ178_270 : PZ178[270]? = some (.int .u8 0) := by kernel_rfl
@[simp, go_sem] theorem PZ178_271 : PZ178[271]? = some (.int .u8 0) := by kernel_rfl
@[simp, go_sem] theorem PZ178_272 : PZ178[272]? = some (.int .u8 0) := by kernel_rfl
@[simp, go_sem] theorem PZ178_273 : PZ178[273]? = some (.int .u8 0) := by kernel_rfl
@[simp, go_sem] theorem PZ178_274 : PZ178[274]? = some (.int .u8 0) := by kernel_rfl
@[simp, go_sem] theorem PZ178_275 : PZ178[275]? = some (.int .u8 0) := by kernel_rfl
@[simp, go_sem] theorem PZ178_276 : PZ178[276]? = some (.int .u8 0) := by kernel_rfl
@[simp, go_sem] theorem PZ178_277 : PZ178[277]? = some (.bool false) := by kernel_rfl
@[simp, go_sem] theorem PZ178_278 : PZ178[278]? = some (.bool false) := by kernel_rfl
@[simp, go_sem] theorem PZ178_279 : PZ178[279]? = some (.bool false) := by kernel_rfl
@[simp, go_sem] theorem PZ178_280 : PZ178[280]? = some (.int .u8 0) := by kernel_rfl
@[simp, go_sem] theorem PZ178_281 : PZ178[281]? = some (.bool false) := by kernel_rfl
@[simp, go_sem] theorem PZ178_282 : PZ178[282]? = some (.bool false) := by kernel_rfl
@[simp, go_sem] theorem PZ178_283 : PZ178[283]? = some (.bool false) := by kernel_rfl
@[simp, go_sem] theorem PZ178_284 : PZ178[284]? = some (.bool false) := by kernel_rfl
@[simp, go_sem] theorem PZ178_285 : PZ178[285]? = some (.bool false) := by kernel_rfl
@[simp, go_sem] theorem PZ178_286 : PZ178[286]? = some (.int .i64 0) := by kernel_rfl
@[simp, go_sem] theorem PZ178_287 : PZ178[287]? = some (.int .i64 0) := by kernel_rfl
@[simp, go_sem] theorem PZ178_288 : PZ178[288]? = some (.int .i64 0) := by kernel_rfl
@[simp, go_sem] theorem PZ178_289 : PZ178[289]? = some (.int .i64 0) := by kernel_rfl
@[simp, go_sem] theorem PZ178_290 : PZ178[290]? = some (.int .i64 0) := by kernel_rfl
@[simp, go_sem] theorem PZ178_291 : PZ178[291]? = some (.int .i64 0) := by kernel_rfl
@[simp, go_sem] theorem PZ178_292 : PZ178[292]? = some (.int .u32 0) := by kernel_rfl
@[simp, go_sem] theorem PZ178_293 : PZ178[293]? = some (.int .u32 0) := by kernel_rfl
@[simp, go_sem] theorem PZ178_294 : PZ178[294]? = some (.int .u32 0) := by kernel_rfl
@[simp, go_sem] theorem PZ178_295 : PZ178[295]? = some (.int .u32 0) := by kernel_rfl
@[simp, go_sem] theorem PZ178_296 : PZ178[296]? = some (.int .u32 0) := by kernel_rfl
@[simp, go_sem] theorem PZ178_297 : PZ178[297]? = some (.int .u32 0) := by kernel_rfl
@[simp, go_sem] theorem PZ178_298 : PZ178[298]? = some (.int .u32 0) := by kernel_rfl
@[simp, go_sem] theorem PZ178_299 : PZ178[299]? = some (.int .u32 0) := by kernel_rfl
@[simp, go_sem] theorem PZ178_300 : PZ178[300]? = some (.int .u32 0) := by kernel_rfl
@[simp, go_sem] theorem PZ178_301 : PZ178[301]? = some (.int .u32 0) := by kernel_rfl
@[simp, go_sem] theorem PZ178_302 : PZ178[302]? = some (.int .u32 0) := by kernel_rfl
@[simp, go_sem] theorem PZ178_303 : PZ178[303]? = some (.int .u32 0) := by kernel_rfl
@[simp, go_sem] theorem PZ178_304 : PZ178[304]? = some (.int .u32 0) := by kernel_rfl
@[simp, go_sem] theorem PZ178_305 : PZ178[305]? = some (.int .u32 0) := by kernel_rfl
@[simp, go_sem] theorem PZ178_306 : PZ178[306]? = some (.int .u32 0) := by kernel_rfl
@[simp, go_sem] theorem PZ178_307 : PZ178[307]? = some (.int .u32 0) := by kernel_rfl
@[simp, go_sem] theorem PZ178_308 : PZ178[308]? = some (.map none) := by kernel_rfl
@[simp, go_sem] theorem PZ178_309 : PZ178[309]? = some (.map none) := by kernel_rfl
@[simp, go_sem] theorem PZ178_310 : PZ178[310]? = some (.int .u32 0) := by kernel_rfl
@[simp, go_sem] theorem PZ178_311 : PZ178[311]? = some (.int .u32 0) := by kernel_rfl
@[simp, go_sem] theorem PZ178_312 : PZ178[312]? = some (.int .u32 0) := by kernel_rfl
@[simp, go_sem] theorem PZ178_313 : PZ178[313]? = some (.int .u32 0) := by kernel_rfl
@[simp, go_sem] theorem PZ178_314 : PZ178[314]? = some (.int .i32 0) := by kernel_rfl
@[simp, go_sem] theorem PZ178_315 : PZ178[315]? = some (.int .i32 0) := by kernel_rfl
@[simp, go_sem] theorem PZ178_316 : PZ178[316]? = some (.int .i32 0) := by kernel_rfl
@[simp, go_sem] theorem PZ178_317 : PZ178[317]? = some (.int .i32 0) := by kernel_rfl
@[simp, go_sem] theorem PZ178_318 : PZ178[318]? = some (.int .i32 0) := by kernel_rfl
@[simp, go_sem] theorem PZ178_319 : PZ178[319]? = some (.int .i32 0) := by kernel_rfl
@[simp, go_sem] theorem PZ178_320 : PZ178[320]? = some (.int .i32 0) := by kernel_rfl
@[simp, go_sem] theorem PZ178_321 : PZ178[321]? = some (.int .i32 0) := by kernel_rfl
@[simp, go_sem] theorem PZ178_322 : PZ178[322]? = some (.int .i32 0) := by kernel_rfl
@[simp, go_sem] theorem PZ178_323 : PZ178[323]? = some (.int .i32 0) := by kernel_rfl
@[simp, go_sem] theorem PZ178_324 : PZ178[324]? = some (.int .i32 0) := by kernel_rfl
@[simp, go_sem] theorem PZ178_325 : PZ178[325]? = some (.int .i32 0) := by kernel_rfl
@[simp, go_sem] theorem PZ178_326 : PZ178[326]? = some (.int .i32 0) := by kernel_rfl
@[simp, go_sem] theorem PZ178_327 : PZ178[327]? = some (.int .i32 0) := by kernel_rfl
@[simp, go_sem] theorem PZ178_328 : PZ178[328]? = some (.int .i32 0) := by kernel_rfl
@[simp, go_sem] theorem PZ178_329 : PZ178[329]? = some (.int .i32 0) := by kernel_rfl
@[simp, go_sem] theorem PZ178_330 : PZ178[330]? = some (.int .i32 0) := by kernel_rfl
@[simp, go_sem] theorem PZ178_331 : PZ178[331]? = some (.bool false) := by kernel_rfl
@[simp, go_sem] theorem PZ178_332 : PZ178[332]? = some (.bool false) := by kernel_rfl
@[simp, go_sem] theorem PZ178_333 : PZ178[333]? = some (.bool false) := by kernel_rfl
@[simp, go_sem] theorem PZ178_334 : PZ178[334]? = some (.bool false) := by kernel_rfl
@[simp, go_sem] theorem PZ178_335 : PZ178[335]? = some (.bool false) := by kernel_rfl
@[simp, go_sem] theorem PZ178_336 : PZ178[336]? = some (.bool false) := by kernel_rfl
@[simp, go_sem] theorem PZ178_337 : PZ178[337]? = some (.bool false) := by kernel_rfl
@[simp, go_sem] theorem PZ178_338 : PZ178[338]? = some (.bool false) := by kernel_rfl
@[simp, go_sem] theorem PZ178_339 : PZ178[339]? = some (.int .i64 0) := by kernel_rfl
@[simp, go_sem] theorem PZ178_340 : PZ178[340]? = some (.int .i32 0) := by kernel_rfl
@[simp, go_sem] theorem PZ178_341 : PZ178[341]? = some (.bool false) := by kernel_rfl
@[simp, go_sem] theorem PZ178_342 : PZ178[342]? = some (.bool false) := by kernel_rfl
@[simp, go_sem] theorem PZ178_343 : PZ178[343]? = some (.bool false) := by kernel_rfl
@[simp, go_sem] theorem PZ178_344 : PZ178[344]? = some (.bool false) := by kernel_rfl
@[simp, go_sem] theorem PZ178_345 : PZ178[345]? = some (.bool false) := by kernel_rfl
@[simp, go_sem] theorem PZ178_346 : PZ178[346]? = some (.bool false) := by kernel_rfl
@[simp, go_sem] theorem PZ178_347 : PZ178[347]? = some (.bool false) := by kernel_rfl
@[simp, go_sem] theorem PZ178_348 : PZ178[348]? = some (.bool false) := by kernel_rfl
@[simp, go_sem] theorem PZ178_349 : PZ178[349]? = some (.bool false) := by kernel_rfl
@[simp, go_sem] theorem PZ178_350 : PZ178[350]? = some (.bool false) := by kernel_rfl
@[simp, go_sem] theorem PZ178_351 : PZ178[351]? = some (.bool false) := by kernel_rfl
@[simp, go_sem] theorem PZ178_352 : PZ178[352]? = some (.bool false) := by kernel_rfl
@[go_sem ↓] theorem fa178_0 (b o : Nat) (w : World) : (Instr.fieldAt 178 (.pointer (some ⟨b, o, none⟩)) 0).run Tryf.prog w = .ok (.pointer (some ⟨b, o, none⟩)) w := by kernel_rfl
@[go_sem ↓] theorem fa178_1 (b o : Nat) (w : World) : (Instr.fieldAt 178 (.pointer (some ⟨b, o, none⟩)) 1).run Tryf.prog w = .ok (.pointer (some ⟨b, o + 51, none⟩)) w := by kernel_rfl
@[go_sem ↓] theorem fa178_2 (b o : Nat) (w : World) : (Instr.fieldAt 178 (.pointer (some ⟨b, o, none⟩)) 2).run Tryf.prog w = .ok (.pointer (some ⟨b, o + 57, none⟩)) w := by kernel_rfl
@[go_sem ↓] theorem fa178_3 (b o : Nat) (w : World) : (Instr.fieldAt 178 (.pointer (some ⟨b, o, none⟩)) 3).run Tryf.prog w = .ok (.pointer (some ⟨b, o + 67, none⟩)) w := by kernel_rfl
@[go_sem ↓] theorem fa178_4 (b o : Nat) (w : World) : (Instr.fieldAt 178 (.pointer (some ⟨b, o, none⟩)) 4).run Tryf.prog w = .ok (.pointer (some ⟨b, o + 77, none⟩)) w := by kernel_rfl
@[go_sem ↓] theorem fa178_5 (b o : Nat) (w : World) : (Instr.fieldAt 178 (.pointer (some ⟨b, o, none⟩)) 5).run Tryf.prog w = .ok (.pointer (some ⟨b, o + 92, none⟩)) w := by kernel_rfl
@[go_sem ↓] theorem fa178_6 (b o : Nat) (w : World) : (Instr.fieldAt 178 (.pointer (some ⟨b, o, none⟩)) 6).run Tryf.prog w = .ok (.pointer (some ⟨b, o + 103, none⟩)) w := by kernel_rfl
@[go_sem ↓] theorem fa178_7 (b o : Nat) (w : World) : (Instr.fieldAt 178 (.pointer (some ⟨b, o, none⟩)) 7).run Tryf.prog w = .ok (.pointer (some ⟨b, o + 104, none⟩)) w := by kernel_rfl
@[go_sem ↓] theorem fa178_8 (b o : Nat) (w : World) : (Instr.fieldAt 178 (.pointer (some ⟨b, o, none⟩)) 8).run Tryf.prog w = .ok (.pointer (some ⟨b, o + 105, none⟩)) w := by kernel_rfl
@[go_sem ↓] theorem fa178_9 (b o : Nat) (w : World) : (Instr.fieldAt 178 (.pointer (some ⟨b, o, none⟩)) 9).run Tryf.prog w = .ok (.pointer (some ⟨b, o + 106, none⟩)) w := by kernel_rfl
@[go_sem ↓] theorem fa178_10 (b o : Nat) (w : World) : (Instr.fieldAt 178 (.pointer (some ⟨b, o, none⟩)) 10).run Tryf.prog w = .ok (.pointer (some ⟨b, o + 107, none⟩)) w := by kernel_rfl
@[go_sem ↓] theorem fa178_11 (b o : Nat) (w : World) : (Instr.fieldAt 178 (.pointer (some ⟨b, o, none⟩)) 11).run Tryf.prog w = .ok (.pointer (some ⟨b, o + 108, none⟩)) w := by kernel_rfl
@[go_sem ↓] theorem fa178_12 (b o : Nat) (w : World) : (Instr.fieldAt 178 (.pointer (some ⟨b, o, none⟩)) 12).run Tryf.prog w = .ok (.pointer (some ⟨b, o + 109, none⟩)) w := by kernel_rfl
@[go_sem ↓] theorem fa178_13 (b o : Nat) (w : World) : (Instr.fieldAt 178 (.pointer (some ⟨b, o, none⟩)) 13).run Tryf.prog w = .ok (.pointer (some ⟨b, o + 110, none⟩)) w := by kernel_rfl
@[go_sem ↓] theorem fa178_14 (b o : Nat) (w : World) : (Instr.fieldAt 178 (.pointer (some ⟨b, o, none⟩)) 14).run Tryf.prog w = .ok (.pointer (some ⟨b, o + 111, none⟩)) w := by kernel_rfl
@[go_sem ↓] theorem fa178_15 (b o : Nat) (w : World) : (Instr.fieldAt 178 (.pointer (some ⟨b, o, none⟩)) 15).run Tryf.prog w = .ok (.pointer (some ⟨b, o + 112, none⟩)) w := by kernel_rfl
@[go_sem ↓] theorem fa178_16 (b o : Nat) (w : World) : (Instr.fieldAt 178 (.pointer (some ⟨b, o, none⟩)) 16).run Tryf.prog w = .ok (.pointer (some ⟨b, o + 113, none⟩)) w := by kernel_rfl
@[go_sem ↓] theorem fa178_17 (b o : Nat) (w : World) : (Instr.fieldAt 178 (.pointer (some ⟨b, o, none⟩)) 17).run Tryf.prog w = .ok (.pointer (some ⟨b, o + 114, none⟩)) w := by kernel_rfl
@[go_sem ↓] theorem fa178_18 (b o : Nat) (w : World) : (Instr.fieldAt 178 (.pointer (some ⟨b, o, none⟩)) 18).run Tryf.prog w = .ok (.pointer (some ⟨b, o + 115, none⟩)) w := by kernel_rfl
@[go_sem ↓] theorem fa178_19 (b o : Nat) (w : World) : (Instr.fieldAt 178 (.pointer (some ⟨b, o, none⟩)) 19).run Tryf.prog w = .ok (.pointer (some ⟨b, o + 116, none⟩)) w := by kernel_rfl
@[go_sem ↓] theorem fa178_20 (b o : Nat) (w : World) : (Instr.fieldAt 178 (.pointer (some ⟨b, o, none⟩)) 20).run Tryf.prog w = .ok (.pointer (some ⟨b, o + 117, none⟩)) w := by kernel_rfl
@[go_sem ↓] theorem fa178_21 (b o : Nat) (w : World) : (Instr.fieldAt 178 (.pointer (some ⟨b, o, none⟩)) 21).run Tryf.prog w = .ok (.pointer (some ⟨b, o + 118, none⟩)) w := by kernel_rfl
@[go_sem ↓] theorem fa178_22 (b o : Nat) (w : World) : (Instr.fieldAt 178 (.pointer (some ⟨b, o, none⟩)) 22).run Tryf.prog w = .ok (.pointer (some ⟨b, o + 151, none⟩)) w := by kernel_rfl
@[go_sem ↓] theorem fa178_23 (b o : Nat) (w : World) : (Instr.fieldAt 178 (.pointer (some ⟨b, o, none⟩)) 23).run Tryf.prog w = .ok (.pointer (some ⟨b, o + 152, none⟩)) w := by kernel_rfl
@[go_sem ↓] theorem fa178_24 (b o : Nat) (w : World) : (Instr.fieldAt 178 (.pointer (some ⟨b, o, none⟩)) 24).run Tryf.prog w = .ok (.pointer (some ⟨b, o + 153, none⟩)) w := by kernel_rfl
@[go_sem ↓] theorem fa178_25 (b o : Nat) (w : World) : (Instr.fieldAt 178 (.pointer (some ⟨b, o, none⟩)) 25).run Tryf.prog w = .ok (.pointer (some ⟨b, o + 154, none⟩)) w := by kernel_rfl
@[go_sem ↓] theorem fa178_26 (b o : Nat) (w : World) : (Instr.fieldAt 178 (.pointer (some ⟨b, o, none⟩)) 26).run Tryf.prog w = .ok (.pointer (some ⟨b, o + 155, none⟩)) w := by kernel_rfl
@[go_sem ↓] theorem fa178_27 (b o : Nat) (w : World) : (Instr.fieldAt 178 (.pointer (some ⟨b, o, none⟩)) 27).run Tryf.prog w = .ok (.pointer (some ⟨b, o + 156, none⟩)) w := by kernel_rfl
@[go_sem ↓] theorem fa178_28 (b o : Nat) (w : World) : (Instr.fieldAt 178 (.pointer (some ⟨b, o, none⟩)) 28).run Tryf.prog w = .ok (.pointer (some ⟨b, o + 157, none⟩)) w := by kernel_rfl
@[go_sem ↓] theorem fa178_29 (b o : Nat) (w : World) : (Instr.fieldAt 178 (.pointer (some ⟨b, o, none⟩)) 29).run Tryf.prog w = .ok (.pointer (some ⟨b, o + 158, none⟩)) w := by kernel_rfl
@[go_sem ↓] theorem fa178_30 (b o : Nat) (w : World) : (Instr.fieldAt 178 (.pointer (some ⟨b, o, none⟩)) 30).run Tryf.prog w = .ok (.pointer (some ⟨b, o + 159, none⟩)) w := by kernel_rfl
@[go_sem ↓] theorem fa178_31 (b o : Nat) (w : World) : (Instr.fieldAt 178 (.pointer (some ⟨b, o, none⟩)) 31).run Tryf.prog w = .ok (.pointer (some ⟨b, o + 160, none⟩)) w := by kernel_rfl
@[go_sem ↓] theorem fa178_32 (b o : Nat) (w : World) : (Instr.fieldAt 178 (.pointer (some ⟨b, o, none⟩)) 32).run Tryf.prog w = .ok (.pointer (some ⟨b, o + 161, none⟩)) w := by kernel_rfl
@[go_sem ↓] theorem fa178_33 (b o : Nat) (w : World) : (Instr.fieldAt 178 (.pointer (some ⟨b, o, none⟩)) 33).run Tryf.prog w = .ok (.pointer (some ⟨b, o + 162, none⟩)) w := by kernel_rfl
@[go_sem ↓] theorem fa178_34 (b o : Nat) (w : World) : (Instr.fieldAt 178 (.pointer (some ⟨b, o, none⟩)) 34).run Tryf.prog w = .ok (.pointer (some ⟨b, o + 163, none⟩)) w := by kernel_rfl
@[go_sem ↓] theorem fa178_35 (b o : Nat) (w : World) : (Instr.fieldAt 178 (.pointer (some ⟨b, o, none⟩)) 35).run Tryf.prog w = .ok (.pointer (some ⟨b, o + 164, none⟩)) w := by kernel_rfl
@[go_sem ↓] theorem fa178_36 (b o : Nat) (w : World) : (Instr.fieldAt 178 (.pointer (some ⟨b, o, none⟩)) 36).run Tryf.prog w = .ok (.pointer (some ⟨b, o + 165, none⟩)) w := by kernel_rfl
@[go_sem ↓] theorem fa178_37 (b o : Nat) (w : World) : (Instr.fieldAt 178 (.pointer (some ⟨b, o, none⟩)) 37).run Tryf.prog w = .ok (.pointer (some ⟨b, o + 166, none⟩)) w := by kernel_rfl
@[go_sem ↓] theorem fa178_38 (b o : Nat) (w : World) : (Instr.fieldAt 178 (.pointer (some ⟨b, o, none⟩)) 38).run Tryf.prog w = .ok (.pointer (some ⟨b, o + 167, none⟩)) w := by kernel_rfl
@[go_sem ↓] theorem fa178_39 (b o : Nat) (w : World) : (Instr.fieldAt 178 (.pointer (some ⟨b, o, none⟩)) 39).run Tryf.prog w = .ok (.pointer (some ⟨b, o + 168, none⟩)) w := by kernel_rfl
@[go_sem ↓] theorem fa178_40 (b o : Nat) (w : World) : (Instr.fieldAt 178 (.pointer (some ⟨b, o, none⟩)) 40).run Tryf.prog w = .ok (.pointer (some ⟨b, o + 169, none⟩)) w := by kernel_rfl
@[go_sem ↓] theorem fa178_41 (b o : Nat) (w : World) : (Instr.fieldAt 178 (.pointer (some ⟨b, o, none⟩)) 41).run Tryf.prog w = .ok (.pointer (some ⟨b, o + 170, none⟩)) w := by kernel_rfl
@[go_sem ↓] theorem fa178_42 (b o : Nat) (w : World) : (Instr.fieldAt 178 (.pointer (some ⟨b, o, none⟩)) 42).run Tryf.prog w = .ok (.pointer (some ⟨b, o + 171, none⟩)) w := by kernel_rfl
@[go_sem ↓] theorem fa178_43 (b o : Nat) (w : World) : (Instr.fieldAt 178 (.pointer (some ⟨b, o, none⟩)) 43).run Tryf.prog w = .ok (.pointer (some ⟨b, o + 172, none⟩)) w := by kernel_rfl
@[go_sem ↓] theorem fa178_44 (b o : Nat) (w : World) : (Instr.fieldAt 178 (.pointer (some ⟨b, o, none⟩)) 44).run Tryf.prog w = .ok (.pointer (some ⟨b, o + 173, none⟩)) w := by kernel_rfl
@[go_sem ↓] theorem fa178_45 (b o : Nat) (w : World) : (Instr.fieldAt 178 (.pointer (some ⟨b, o, none⟩)) 45).run Tryf.prog w = .ok (.pointer (some ⟨b, o + 174, none⟩)) w := by kernel_rfl
@[go_sem ↓] theorem fa178_46 (b o : Nat) (w : World) : (Instr.fieldAt 178 (.pointer (some ⟨b, o, none⟩)) 46).run Tryf.prog w = .ok (.pointer (some ⟨b, o + 175, none⟩)) w := by kernel_rfl
@[go_sem ↓] theorem fa178_47 (b o : Nat) (w : World) : (Instr.fieldAt 178 (.pointer (some ⟨b, o, none⟩)) 47).run Tryf.prog w = .ok (.pointer (some ⟨b, o + 176, none⟩)) w := by kernel_rfl
@[go_sem ↓] theorem fa178_48 (b o : Nat) (w : World) : (Instr.fieldAt 178 (.pointer (some ⟨b, o, none⟩)) 48).run Tryf.prog w = .ok (.pointer (some ⟨b, o + 177, none⟩)) w := by kernel_rfl
@[go_sem ↓] theorem fa178_49 (b o : Nat) (w : World) : (Instr.fieldAt 178 (.pointer (some ⟨b, o, none⟩)) 49).run Tryf.prog w = .ok (.pointer (some ⟨b, o + 178, none⟩)) w := by kernel_rfl
@[go_sem ↓] theorem fa178_50 (b o : Nat) (w : World) : (Instr.fieldAt 178 (.pointer (some ⟨b, o, none⟩)) 50).run Tryf.prog w = .ok (.pointer (some ⟨b, o + 179, none⟩)) w := by kernel_rfl
@[go_sem ↓] theorem fa178_51 (b o : Nat) (w : World) : (Instr.fieldAt 178 (.pointer (some ⟨b, o, none⟩)) 51).run Tryf.prog w = .ok (.pointer (some ⟨b, o + 180, none⟩)) w := by kernel_rfl
@[go_sem ↓] theorem fa178_52 (b o : Nat) (w : World) : (Instr.fieldAt 178 (.pointer (some ⟨b, o, none⟩)) 52).run Tryf.prog w = .ok (.pointer (some ⟨b, o + 181, none⟩)) w := by kernel_rfl
@[go_sem ↓] theorem fa178_53 (b o : Nat) (w : World) : (Instr.fieldAt 178 (.pointer (some ⟨b, o, none⟩)) 53).run Tryf.prog w = .ok (.pointer (some ⟨b, o + 182, none⟩)) w := by kernel_rfl
@[go_sem ↓] theorem fa178_54 (b o : Nat) (w : World) : (Instr.fieldAt 178 (.pointer (some ⟨b, o, none⟩)) 54).run Tryf.prog w = .ok (.pointer (some ⟨b, o + 183, none⟩)) w := by kernel_rfl
@[go_sem ↓] theorem fa178_55 (b o : Nat) (w : World) : (Instr.fieldAt 178 (.pointer (some ⟨b, o, none⟩)) 55).run Tryf.prog w = .ok (.pointer (some ⟨b, o + 184, none⟩)) w := by kernel_rfl
@[go_sem ↓] theorem fa178_56 (b o : Nat) (w : World) : (Instr.fieldAt 178 (.pointer (some ⟨b, o, none⟩)) 56).run Tryf.prog w = .ok (.pointer (some ⟨b, o + 185, none⟩)) w := by kernel_rfl
@[go_sem ↓] theorem fa178_57 (b o : Nat) (w : World) : (Instr.fieldAt 178 (.pointer (some ⟨b, o, none⟩)) 57).run Tryf.prog w = .ok (.pointer (some ⟨b, o + 186, none⟩)) w := by kernel_rfl
@[go_sem ↓] theorem fa178_58 (b o : Nat) (w : World) : (Instr.fieldAt 178 (.pointer (some ⟨b, o, none⟩)) 58).run Tryf.prog w = .ok (.pointer (some ⟨b, o + 187, none⟩)) w := by kernel_rfl
@[go_sem ↓] theorem fa178_59 (b o : Nat) (w : World) : (Instr.fieldAt 178 (.pointer (some ⟨b, o, none⟩)) 59).run Tryf.prog w = .ok (.pointer (some ⟨b, o + 188, none⟩)) w := by kernel_rfl
@[go_sem ↓] theorem fa178_60 (b o : Nat) (w : World) : (Instr.fieldAt 178 (.pointer (some ⟨b, o, none⟩)) 60).run Tryf.prog w = .ok (.pointer (some ⟨b, o + 190, none⟩)) w := by kernel_rfl
@[go_sem ↓] theorem fa178_61 (b o : Nat) (w : World) : (Instr.fieldAt 178 (.pointer (some ⟨b, o, none⟩)) 61).run Tryf.prog w = .ok (.pointer (some ⟨b, o + 191, none⟩)) w := by kernel_rfl
@[go_sem ↓] theorem fa178_62 (b o : Nat) (w : World) : (Instr.fieldAt 178 (.pointer (some ⟨b, o, none⟩)) 62).run Tryf.prog w = .ok (.pointer (some ⟨b, o + 192, none⟩)) w := by kernel_rfl
@[go_sem ↓] theorem fa178_63 (b o : Nat) (w : World) : (Instr.fieldAt 178 (.pointer (some ⟨b, o, none⟩)) 63).run Tryf.prog w = .ok (.pointer (some ⟨b, o + 196, none⟩)) w := by kernel_rfl
@[go_sem ↓] theorem fa178_64 (b o : Nat) (w : World) : (Instr.fieldAt 178 (.pointer (some ⟨b, o, none⟩)) 64).run Tryf.prog w = .ok (.pointer (some ⟨b, o + 197, none⟩)) w := by kernel_rfl
@[go_sem ↓] theorem fa178_65 (b o : Nat) (w : World) : (Instr.fieldAt 178 (.pointer (some ⟨b, o, none⟩)) 65).run Tryf.prog w = .ok (.pointer (some ⟨b, o + 198, none⟩)) w := by kernel_rfl
@[go_sem ↓] theorem fa178_66 (b o : Nat) (w : World) : (Instr.fieldAt 178 (.pointer (some ⟨b, o, none⟩)) 66).run Tryf.prog w = .ok (.pointer (some ⟨b, o + 199, none⟩)) w := by kernel_rfl
@[go_sem ↓] theorem fa178_67 (b o : Nat) (w : World) : (Instr.fieldAt 178 (.pointer (some ⟨b, o, none⟩)) 67).run Tryf.prog w = .ok (.pointer (some ⟨b, o + 200, none⟩)) w := by kernel_rfl
@[go_sem ↓] theorem fa178_68 (b o : Nat) (w : World) : (Instr.fieldAt 178 (.pointer (some ⟨b, o, none⟩)) 68).run Tryf.prog w = .ok (.pointer (some ⟨b, o + 201, none⟩)) w := by kernel_rfl
@[go_sem ↓] theorem fa178_69 (b o : Nat) (w : World) : (Instr.fieldAt 178 (.pointer (some ⟨b, o, none⟩)) 69).run Tryf.prog w = .ok (.pointer (some ⟨b, o + 286, none⟩)) w := by kernel_rfl
@[go_sem ↓] theorem fa178_70 (b o : Nat) (w : World) : (Instr.fieldAt 178 (.pointer (some ⟨b, o, none⟩)) 70).run Tryf.prog w = .ok (.pointer (some ⟨b, o + 287, none⟩)) w := by kernel_rfl
@[go_sem ↓] theorem fa178_71 (b o : Nat) (w : World) : (Instr.fieldAt 178 (.pointer (some ⟨b, o, none⟩)) 71).run Tryf.prog w = .ok (.pointer (some ⟨b, o + 288, none⟩)) w := by kernel_rfl
@[go_sem ↓] theorem fa178_72 (b o : Nat) (w : World) : (Instr.fieldAt 178 (.pointer (some ⟨b, o, none⟩)) 72).run Tryf.prog w = .ok (.pointer (some ⟨b, o + 289, none⟩)) w := by kernel_rfl
@[go_sem ↓] theorem fa178_73 (b o : Nat) (w : World) : (Instr.fieldAt 178 (.pointer (some ⟨b, o, none⟩)) 73).run Tryf.prog w = .ok (.pointer (some ⟨b, o + 290, none⟩)) w := by kernel_rfl
@[go_sem ↓] theorem fa178_74 (b o : Nat) (w : World) : (Instr.fieldAt 178 (.pointer (some ⟨b, o, none⟩)) 74).run Tryf.prog w = .ok (.pointer (some ⟨b, o + 291, none⟩)) w := by kernel_rfl
@[go_sem ↓] theorem fa178_75 (b o : Nat) (w : World) : (Instr.fieldAt 178 (.pointer (some ⟨b, o, none⟩)) 75).run Tryf.prog w = .ok (.pointer (some ⟨b, o + 292, none⟩)) w := by kernel_rfl
@[go_sem ↓] theorem fa178_76 (b o : Nat) (w : World) : (Instr.fieldAt 178 (.pointer (some ⟨b, o, none⟩)) 76).run Tryf.prog w = .ok (.pointer (some ⟨b, o + 294, none⟩)) w := by kernel_rfl
@[go_sem ↓] theorem fa178_77 (b o : Nat) (w : World) : (Instr.fieldAt 178 (.pointer (some ⟨b, o, none⟩)) 77).run Tryf.prog w = .ok (.pointer (some ⟨b, o + 296, none⟩)) w := by kernel_rfl
@[go_sem ↓] theorem fa178_78 (b o : Nat) (w : World) : (Instr.fieldAt 178 (.pointer (some ⟨b, o, none⟩)) 78).run Tryf.prog w = .ok (.pointer (some ⟨b, o + 298, none⟩)) w := by kernel_rfl
@[go_sem ↓] theorem fa178_79 (b o : Nat) (w : World) : (Instr.fieldAt 178 (.pointer (some ⟨b, o, none⟩)) 79).run Tryf.prog w = .ok (.pointer (some ⟨b, o + 300, none⟩)) w := by kernel_rfl
@[go_sem ↓] theorem fa178_80 (b o : Nat) (w : World) : (Instr.fieldAt 178 (.pointer (some ⟨b, o, none⟩)) 80).run Tryf.prog w = .ok (.pointer (some ⟨b, o + 302, none⟩)) w := by kernel_rfl
@[go_sem ↓] theorem fa178_81 (b o : Nat) (w : World) : (Instr.fieldAt 178 (.pointer (some ⟨b, o, none⟩)) 81).run Tryf.prog w = .ok (.pointer (some ⟨b, o + 304, none⟩)) w := by kernel_rfl
@[go_sem ↓] theorem fa178_82 (b o : Nat) (w : World) : (Instr.fieldAt 178 (.pointer (some ⟨b, o, none⟩)) 82).run Tryf.prog w = .ok (.pointer (some ⟨b, o + 306, none⟩)) w := by kernel_rfl
@[go_sem ↓] theorem fa178_83 (b o : Nat) (w : World) : (Instr.fieldAt 178 (.pointer (some ⟨b, o, none⟩)) 83).run Tryf.prog w = .ok (.pointer (some ⟨b, o + 308, none⟩)) w := by kernel_rfl
@[go_sem ↓] theorem fa178_84 (b o : Nat) (w : World) : (Instr.fieldAt 178 (.pointer (some ⟨b, o, none⟩)) 84).run Tryf.prog w = .ok (.pointer (some ⟨b, o + 309, none⟩)) w := by kernel_rfl
@[go_sem ↓] theorem fa178_85 (b o : Nat) (w : World) : (Instr.fieldAt 178 (.pointer (some ⟨b, o, none⟩)) 85).run Tryf.prog w = .ok (.pointer (some ⟨b, o + 310, none⟩)) w := by kernel_rfl
@[go_sem ↓] theorem fa178_86 (b o : Nat) (w : World) : (Instr.fieldAt 178 (.pointer (some ⟨b, o, none⟩)) 86).run Tryf.prog w = .ok (.pointer (some ⟨b, o + 312, none⟩)) w := by kernel_rfl
@[go_sem ↓] theorem fa178_87 (b o : Nat) (w : World) : (Instr.fieldAt 178 (.pointer (some ⟨b, o, none⟩)) 87).run Tryf.prog w = .ok (.pointer (some ⟨b, o + 314, none⟩)) w := by kernel_rfl
@[go_sem ↓] theorem fa178_88 (b o : Nat) (w : World) : (Instr.fieldAt 178 (.pointer (some ⟨b, o, none⟩)) 88).run Tryf.prog w = .ok (.pointer (some ⟨b, o + 316, none⟩)) w := by kernel_rfl
@[go_sem ↓] theorem fa178_89 (b o : Nat) (w : World) : (Instr.fieldAt 178 (.pointer (some ⟨b, o, none⟩)) 89).run Tryf.prog w = .ok (.pointer (some ⟨b, o + 318, none⟩)) w := by kernel_rfl
@[go_sem ↓] theorem fa178_90 (b o : Nat) (w : World) : (Instr.fieldAt 178 (.pointer (some ⟨b, o, none⟩)) 90).run Tryf.prog w = .ok (.pointer (some ⟨b, o + 320, none⟩)) w := by kernel_rfl
@[go_sem ↓] theorem fa178_91 (b o : Nat) (w : World) : (Instr.fieldAt 178 (.pointer (some ⟨b, o, none⟩)) 91).run Tryf.prog w = .ok (.pointer (some ⟨b, o + 322, none⟩)) w := by kernel_rfl
@[go_sem ↓] theorem fa178_92 (b o : Nat) (w : World) : (Instr.fieldAt 178 (.pointer (some ⟨b, o, none⟩)) 92).run Tryf.prog w = .ok (.pointer (some ⟨b, o + 324, none⟩)) w := by kernel_rfl
@[go_sem ↓] theorem fa178_93 (b o : Nat) (w : World) : (Instr.fieldAt 178 (.pointer (some ⟨b, o, none⟩)) 93).run Tryf.prog w = .ok (.pointer (some ⟨b, o + 326, none⟩)) w := by kernel_rfl
@[go_sem ↓] theorem fa178_94 (b o : Nat) (w : World) : (Instr.fieldAt 178 (.pointer (some ⟨b, o, none⟩)) 94).run Tryf.prog w = .ok (.pointer (some ⟨b, o + 327, none⟩)) w := by kernel_rfl
@[go_sem ↓] theorem fa178_95 (b o : Nat) (w : World) : (Instr.fieldAt 178 (.pointer (some ⟨b, o, none⟩)) 95).run Tryf.prog w = .ok (.pointer (some ⟨b, o + 328, none⟩)) w := by kernel_rfl
@[go_sem ↓] theorem fa178_96 (b o : Nat) (w : World) : (Instr.fieldAt 178 (.pointer (some ⟨b, o, none⟩)) 96).run Tryf.prog w = .ok (.pointer (some ⟨b, o + 329, none⟩)) w := by kernel_rfl
@[go_sem ↓] theorem fa178_97 (b o : Nat) (w : World) : (Instr.fieldAt 178 (.pointer (some ⟨b, o, none⟩)) 97).run Tryf.prog w = .ok (.pointer (some ⟨b, o + 339, none⟩)) w := by kernel_rfl
@[go_sem ↓] theorem fa178_98 (b o : Nat) (w : World) : (Instr.fieldAt 178 (.pointer (some ⟨b, o, none⟩)) 98).run Tryf.prog w = .ok (.pointer (some ⟨b, o + 340, none⟩)) w := by kernel_rfl
@[go_sem ↓] theorem fa178_99 (b o : Nat) (w : World) : (Instr.fieldAt 178 (.pointer (some ⟨b, o, none⟩)) 99).run Tryf.prog w = .ok (.pointer (some ⟨b, o + 341, none⟩)) w := by kernel_rfl
@[go_sem ↓] theorem fa178_100 (b o : Nat) (w : World) : (Instr.fieldAt 178 (.pointer (some ⟨b, o, none⟩)) 100).run Tryf.prog w = .ok (.pointer (some ⟨b, o + 342, none⟩)) w := by kernel_rfl
@[go_sem ↓] theorem fa178_101 (b o : Nat) (w : World) : (Instr.fieldAt 178 (.pointer (some ⟨b, o, none⟩)) 101).run Tryf.prog w = .ok (.pointer (some ⟨b, o + 343, none⟩)) w := by kernel_rfl
@[go_sem ↓] theorem fa178_102 (b o : Nat) (w : World) : (Instr.fieldAt 178 (.pointer (some ⟨b, o, none⟩)) 102).run Tryf.prog w = .ok (.pointer (some ⟨b, o + 344, none⟩)) w := by kernel_rfl
@[go_sem ↓] theorem fa178_103 (b o : Nat) (w : World) : (Instr.fieldAt 178 (.pointer (some ⟨b, o, none⟩)) 103).run Tryf.prog w = .ok (.pointer (some ⟨b, o + 345, none⟩)) w := by kernel_rfl
@[go_sem ↓] theorem fa178_104 (b o : Nat) (w : World) : (Instr.fieldAt 178 (.pointer (some ⟨b, o, none⟩)) 104).run Tryf.prog w = .ok (.pointer (some ⟨b, o + 346, none⟩)) w := by kernel_rfl
@[go_sem ↓] theorem fa178_105 (b o : Nat) (w : World) : (Instr.fieldAt 178 (.pointer (some ⟨b, o, none⟩)) 105).run Tryf.prog w = .ok (.pointer (some ⟨b, o + 347, none⟩)) w := by kernel_rfl
@[go_sem ↓] theorem fa178_106 (b o : Nat) (w : World) : (Instr.fieldAt 178 (.pointer (some ⟨b, o, none⟩)) 106).run Tryf.prog w = .ok (.pointer (some ⟨b, o + 348, none⟩)) w := by kernel_rfl
@[go_sem ↓] theorem fa178_107 (b o : Nat) (w : World) : (Instr.fieldAt 178 (.pointer (some ⟨b, o, none⟩)) 107).run Tryf.prog w = .ok (.pointer (some ⟨b, o + 349, none⟩)) w := by kernel_rfl
@[go_sem ↓] theorem fa178_108 (b o : Nat) (w : World) : (Instr.fieldAt 178 (.pointer (some ⟨b, o, none⟩)) 108).run Tryf.prog w = .ok (.pointer (some ⟨b, o + 350, none⟩)) w := by kernel_rfl
@[go_sem ↓] theorem fa178_109 (b o : Nat) (w : World) : (Instr.fieldAt 178 (.pointer (some ⟨b, o, none⟩)) 109).run Tryf.prog w = .ok (.pointer (some ⟨b, o + 351, none⟩)) w := by kernel_rfl
@[go_sem ↓] theorem fa178_110 (b o : Nat) (w : World) : (Instr.fieldAt 178 (.pointer (some ⟨b, o, none⟩)) 110).run Tryf.prog w = .ok (.pointer (some ⟨b, o + 352, none⟩)) w := by kernel_rfl

end Go.Proofs.YthmfjhadkmeldacFmt
