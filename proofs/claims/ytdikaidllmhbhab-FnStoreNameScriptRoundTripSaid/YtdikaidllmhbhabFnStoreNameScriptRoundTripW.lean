import Derived.Test.YtdikaidllmhbhabKit
import Derived.Test.YtdikaidllmhbhabSnH
namespace Go.Proofs.Ytdikaidllmhbhab.fnStoreNameScriptRoundTrip
open Go.ChangeShapes Go.WideShapes Go.ChangeAt Go.RowKit
set_option linter.unusedVariables false
set_option maxRecDepth 100000
set_option maxHeartbeats 2000000

theorem walk (a0 : ByteArray) (a1 : Option Addr) (len1 cap1 : Nat) (z1 : Nat → ByteArray) (a2 : Option Addr) (len2 cap2 : Nat) (z2 : Nat → Bool) (a3 : Option Addr) (len3 cap3 : Nat) (z3 : List Int) (a4 : Option Addr) (len4 cap4 : Nat) (z4 : List Int) (w : World) (w0 : a0.size ≤ maxLen) (w1 : IsStrs w a1 len1 cap1 z1) (w2 : IsBools w a2 len2 cap2 z2) (w3 : IsRow .u32 w a3 len3 cap3 z3) (w4 : IsRow .u32 w a4 len4 cap4 z4) :
    Calls Try.prog 3 #[.string a0, .slice a1 len1 cap1, .slice a2 len2 cap2, .slice a3 len3 cap3, .slice a4 len4 cap4] w fun e w' => e = .returned (.bool true) ∧ Below w.heap.size w w' := by
  unfold maxLen at w0
  obtain ⟨v1, s1, m1, l1⟩ := strs w1
  obtain ⟨v2, s2, m2⟩ := bools w2
  obtain ⟨v3, s3, m3, l3⟩ := ints w3
  obtain ⟨v4, s4, m4, l4⟩ := ints w4
  exact walkIn a0 a1 len1 cap1 z1 a2 len2 cap2 z2 a3 len3 cap3 (fun i => z3.getD i 0) a4 len4 cap4 (fun i => z4.getD i 0) w w0 m1 m2 m3 m4 s1 s2 s3 s4 v1 v2 v3 v4 l1 l3 l4

end Go.Proofs.Ytdikaidllmhbhab.fnStoreNameScriptRoundTrip
