import Derived.Test.YteccbmopijdibaaFmtKit
import Derived.Test.YteccbmopijdibaaFmtTgM
import Derived.Stop.FmtQuoteTie
import Derived.Stop.FmtTextKit
import Derived.Stop.JoinedTold
import Derived.Stop.Texts
import Derived.Stop.Told
namespace Go.Proofs.YteccbmopijdibaaFmt
open Go.ChangeShapes Go.WideShapes Go.ChangeAt Go.RowKit
set_option linter.unusedVariables false
set_option maxRecDepth 100000
set_option maxHeartbeats 2000000

open Go.Extern.Stop Go.Stop Go.Extern Go.RowKit
theorem t_parse : (FmtText.parse [37, 113, 32, 116, 97, 103]).map FmtText.glue = some [.verb {} 113, .lit [32, 116, 97, 103]] := by rfl
theorem t_text (nm : List UInt8) (hs : nm.length < 2 ^ 64) : FmtText.text "fmt.Sprintf" (rdg nm) = some (FmtText.quote false nm ++ [32, 116, 97, 103]) := by
  have hn := FmtText.operand_str_at (sh := sh9) rfl rfl nm hs
  rw [rdg, FmtText.text_sprintf_glued t_parse (FmtText.operands_cons hn FmtText.operands_nil)]
  simp [FmtText.render, FmtText.printArg_q_str]
/-- The text that fmt gives is the one that the model writes. -/
theorem told_at (F : Interp) (x : ByteArray) (hs : (x.size : Int) ≤ 1048576) (ha : ∀ c ∈ x.data.toList, c.toNat < 128) : FmtStop.textOf (F.told "fmt.Sprintf" (rdg x.data.toList) 0) = ⟨(helpT x.data.toList).toArray⟩ := by
  have hl : x.data.toList.length ≤ 1048576 := by
    rw [Array.length_toList]
    exact Int.ofNat_le.1 hs
  have h3 := FmtText.quote_length_le x.data.toList
  have ht := told_string F (t_text x.data.toList (by omega)) (by rw [List.length_append]; simp only [List.length_cons, List.length_nil]; omega)
  rw [← helpT_quote _ ha, ← ht, ← Go.Kit.textOf_list]

end Go.Proofs.YteccbmopijdibaaFmt
