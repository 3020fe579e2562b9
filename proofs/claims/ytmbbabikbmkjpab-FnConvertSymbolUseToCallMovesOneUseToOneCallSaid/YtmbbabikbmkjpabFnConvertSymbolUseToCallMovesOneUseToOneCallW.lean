import Derived.Test.YtmbbabikbmkjpabKit
import Derived.Test.YtmbbabikbmkjpabCvMnt
import Derived.Test.YtmbbabikbmkjpabCvMnf
import Derived.Test.YtmbbabikbmkjpabCvMet
import Derived.Test.YtmbbabikbmkjpabCvMef
import Derived.Test.YtmbbabikbmkjpabCvMrt
import Derived.Test.YtmbbabikbmkjpabCvMrf
import Derived.Test.YtmbbabikbmkjpabCvMot
import Derived.Test.YtmbbabikbmkjpabCvMof
import Derived.Test.YtmbbabikbmkjpabCvMbt
import Derived.Test.YtmbbabikbmkjpabCvMbf
namespace Go.Proofs.Ytmbbabikbmkjpab.fnConvertSymbolUseToCallMovesOneUseToOneCall
open Go.ChangeShapes Go.WideShapes Go.ChangeAt Go.RowKit
set_option linter.unusedVariables false
set_option maxRecDepth 100000
set_option maxHeartbeats 2000000

theorem walk (a0 : Int) (a1 : Int) (a2 : Bool) (a3 : Int) (a4 : Bool) (a5 : Bool) (a6 : Int) (a7 : Int) (a8 : Bool) (a9 : Int) (a10 : Bool) (a11 : Int) (w : World) (w0 : (Lit.int .u32 a0).wf = true) (w1 : (Lit.int .u32 a1).wf = true) (w3 : (Lit.int .u32 a3).wf = true) (w6 : (Lit.int .u32 a6).wf = true) (w7 : (Lit.int .u32 a7).wf = true) (w9 : (Lit.int .u32 a9).wf = true) (w11 : (Lit.int .u32 a11).wf = true) :
    Calls Try.prog 4 #[.int .u32 a0, .int .u32 a1, .bool a2, .int .u32 a3, .bool a4, .bool a5, .int .u32 a6, .int .u32 a7, .bool a8, .int .u32 a9, .bool a10, .int .u32 a11] w fun e w' => e = .returned (.bool true) ∧ Below w.heap.size w w' := by
  obtain ⟨s0, s1⟩ := bounds_u32 w0
  obtain ⟨u0, u1⟩ := bounds_u32 w3
  obtain ⟨c0, c1⟩ := bounds_u32 w6
  obtain ⟨d0, d1⟩ := bounds_u32 w7
  clear w0 w1 w3 w6 w7 w9 w11
  have t0 : a0 ≤ 4294967295 := by omega
  have t1 : a3 ≤ 4294967295 := by omega
  have t2 : a6 ≤ 4294967295 := by omega
  have t3 : a7 ≤ 4294967295 := by omega
  cases a2
  · cases a4
    · cases a5
      · cases a10
        · cases a8
          · exact main_vef a0 a1 a3 a6 a7 a9 a11 w s0 t0 u0 t1 c0 t2 d0 t3
          · exact main_vet a0 a1 a3 a6 a7 a9 a11 w s0 t0 u0 t1 c0 t2 d0 t3
        · cases a8
          · exact main_vof a0 a1 a3 a6 a7 a9 a11 w s0 t0 u0 t1 c0 t2 d0 t3
          · exact main_vot a0 a1 a3 a6 a7 a9 a11 w s0 t0 u0 t1 c0 t2 d0 t3
      · cases a10
        · cases a8
          · exact main_vrf a0 a1 a3 a6 a7 a9 a11 w s0 t0 u0 t1 c0 t2 d0 t3
          · exact main_vrt a0 a1 a3 a6 a7 a9 a11 w s0 t0 u0 t1 c0 t2 d0 t3
        · cases a8
          · exact main_vbf a0 a1 a3 a6 a7 a9 a11 w s0 t0 u0 t1 c0 t2 d0 t3
          · exact main_vbt a0 a1 a3 a6 a7 a9 a11 w s0 t0 u0 t1 c0 t2 d0 t3
    · cases a8
      · exact main_vnf a0 a1 a3 a6 a7 a9 a11 a5 a10 w s0 t0 u0 t1 c0 t2 d0 t3
      · exact main_vnt a0 a1 a3 a6 a7 a9 a11 a5 a10 w s0 t0 u0 t1 c0 t2 d0 t3
  · by_cases hus : a3 = 1
    · subst hus
      cases a4
      · cases a5
        · cases a10
          · cases a8
            · exact main_wef a0 a1 1 a6 a7 a9 a11 w s0 t0 u0 t1 c0 t2 d0 t3
            · exact main_wet a0 a1 1 a6 a7 a9 a11 w s0 t0 u0 t1 c0 t2 d0 t3
          · cases a8
            · exact main_wof a0 a1 1 a6 a7 a9 a11 w s0 t0 u0 t1 c0 t2 d0 t3
            · exact main_wot a0 a1 1 a6 a7 a9 a11 w s0 t0 u0 t1 c0 t2 d0 t3
        · cases a10
          · cases a8
            · exact main_wrf a0 a1 1 a6 a7 a9 a11 w s0 t0 u0 t1 c0 t2 d0 t3
            · exact main_wrt a0 a1 1 a6 a7 a9 a11 w s0 t0 u0 t1 c0 t2 d0 t3
          · cases a8
            · exact main_wbf a0 a1 1 a6 a7 a9 a11 w s0 t0 u0 t1 c0 t2 d0 t3
            · exact main_wbt a0 a1 1 a6 a7 a9 a11 w s0 t0 u0 t1 c0 t2 d0 t3
      · cases a8
        · exact main_wnf a0 a1 1 a6 a7 a9 a11 a5 a10 w s0 t0 u0 t1 c0 t2 d0 t3
        · exact main_wnt a0 a1 1 a6 a7 a9 a11 a5 a10 w s0 t0 u0 t1 c0 t2 d0 t3
    · cases a4
      · cases a5
        · cases a10
          · cases a8
            · exact main_uef a0 a1 a3 a6 a7 a9 a11 w s0 t0 u0 t1 hus c0 t2 d0 t3
            · exact main_uet a0 a1 a3 a6 a7 a9 a11 w s0 t0 u0 t1 hus c0 t2 d0 t3
          · cases a8
            · exact main_uof a0 a1 a3 a6 a7 a9 a11 w s0 t0 u0 t1 hus c0 t2 d0 t3
            · exact main_uot a0 a1 a3 a6 a7 a9 a11 w s0 t0 u0 t1 hus c0 t2 d0 t3
        · cases a10
          · cases a8
            · exact main_urf a0 a1 a3 a6 a7 a9 a11 w s0 t0 u0 t1 hus c0 t2 d0 t3
            · exact main_urt a0 a1 a3 a6 a7 a9 a11 w s0 t0 u0 t1 hus c0 t2 d0 t3
          · cases a8
            · exact main_ubf a0 a1 a3 a6 a7 a9 a11 w s0 t0 u0 t1 hus c0 t2 d0 t3
            · exact main_ubt a0 a1 a3 a6 a7 a9 a11 w s0 t0 u0 t1 hus c0 t2 d0 t3
      · cases a8
        · exact main_unf a0 a1 a3 a6 a7 a9 a11 a5 a10 w s0 t0 u0 t1 hus c0 t2 d0 t3
        · exact main_unt a0 a1 a3 a6 a7 a9 a11 a5 a10 w s0 t0 u0 t1 hus c0 t2 d0 t3

end Go.Proofs.Ytmbbabikbmkjpab.fnConvertSymbolUseToCallMovesOneUseToOneCall
