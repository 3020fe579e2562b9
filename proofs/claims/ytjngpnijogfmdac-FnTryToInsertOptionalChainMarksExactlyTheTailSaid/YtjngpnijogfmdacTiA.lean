import Derived.Test.YtjngpnijogfmdacKit
import Derived.Test.YtjngpnijogfmdacRow
import Derived.Test.YtjngpnijogfmdacRec
import Derived.Test.YtjngpnijogfmdacAs
namespace Go.Proofs.Ytjngpnijogfmdac.fnTryToInsertOptionalChainMarksExactlyTheTail
open Go.ChangeShapes Go.WideShapes Go.ChangeAt Go.RowKit
set_option linter.unusedVariables false
set_option maxRecDepth 100000
set_option maxHeartbeats 2000000

/-- A step of a chain. -/
inductive St where
  | dot (nm : ByteArray)
  | idx (nm : ByteArray)
  | call
  deriving DecidableEq

def dotRow (T u : Nat) (nm : ByteArray) (f : Int) : Array Value := #[.iface T (.pointer (some ⟨u, 0, none⟩)), .int .i32 0, .string nm, .int .i32 0, .int .u8 f, .bool false, .bool false, .bool false]
def idxRow (T u s : Nat) (f : Int) : Array Value := #[.iface T (.pointer (some ⟨u, 0, none⟩)), .int .i32 0, .iface 55 (.pointer (some ⟨s, 0, none⟩)), .int .i32 0, .int .i32 0, .int .u8 f, .bool false, .bool false, .bool false]
def callRow (T u : Nat) (f : Int) : Array Value := #[.iface T (.pointer (some ⟨u, 0, none⟩)), .int .i32 0, .slice none 0 0, .int .i32 0, .int .u8 f, .int .u8 0, .bool false, .bool false]
def idRow (r : Int) : Array Value := #[.int .u32 0, .int .u32 r, .bool false, .bool false, .bool false]
def strRow (a : Option Addr) (n : Nat) : Array Value := #[.slice a n n, .int .i32 0, .bool false, .bool false, .bool false]

/-- The i-th unit of a name. -/
def unit (nm : ByteArray) (i : Nat) : Int := ((nm.data.toList.getD i 0).toNat : Int)
theorem unit_in (nm : ByteArray) (i : Nat) : 0 ≤ unit nm i ∧ unit nm i ≤ 255 := by
  unfold unit
  have := (nm.data.toList.getD i 0).toNat_lt
  omega
theorem bytes_ext {a b : ByteArray} (hs : a.size = b.size) (h : ∀ i, i < a.size → unit a i = unit b i) : a = b := by
  have hd : a.data.toList = b.data.toList := by
    apply List.ext_getElem
    · simpa using hs
    · intro i h1 h2
      have h3 : i < a.size := by simpa using h1
      have := h i h3
      unfold unit at this
      rw [List.getD_eq_getElem?_getD, List.getD_eq_getElem?_getD, List.getElem?_eq_getElem h1, List.getElem?_eq_getElem h2] at this
      simp only [Option.getD_some] at this
      exact UInt8.toNat_inj.1 (by omega)
  cases a
  cases b
  congr 1
  exact Array.toList_inj.1 hd

/-- The units of a name lie at a. -/
def Units (w : World) (a : Option Addr) (nm : ByteArray) : Prop := ∀ i, i < nm.size → ∃ x, a = some x ∧ w.cell? (x.add i) = some (.int .u16 (unit nm i))

/-- A string literal of the name's bytes. -/
def Lit8 (w : World) (s : Nat) (nm : ByteArray) : Prop := ∃ R cs, RowAt w s (strRow (some ⟨R, 0, none⟩) nm.size) 59 ∧ RowAt w R cs 67 ∧ ∀ i, i < nm.size → cs[i]? = some (.int .u16 (unit nm i))
theorem Lit8_old {w : World} {s : Nat} {nm : ByteArray} (h : Lit8 w s nm) : ∃ a, RowAt w s (strRow a nm.size) 59 ∧ Units w a nm := by
  obtain ⟨R, cs, h1, h2, h3⟩ := h
  exact ⟨_, h1, fun i hi => ⟨_, rfl, by rw [addr_add, Nat.zero_add]; exact h2.cellv (h3 i hi)⟩⟩

/-- An unmarked chain. -/
def Chain (w : World) (r : Int) : List St → Nat → Nat → Prop
  | [], T, u => T = 47 ∧ RowAt w u (idRow r) 51
  | .dot nm :: s, T, u => T = 42 ∧ ∃ T' u', RowAt w u (dotRow T' u' nm 0) 54 ∧ Chain w r s T' u'
  | .idx nm :: s, T, u => T = 43 ∧ ∃ T' u' b, RowAt w u (idxRow T' u' b 0) 61 ∧ Lit8 w b nm ∧ Chain w r s T' u'
  | .call :: s, T, u => T = 44 ∧ ∃ T' u', RowAt w u (callRow T' u' 0) 65 ∧ Chain w r s T' u'

theorem below_drewN0 {w : World} (n : Nat) : ∀ j : Nat, (w.drewN n).heap[j]? = w.heap[j]? := fun _ => rfl

/-- A call that only reads and draws. -/
def Quiet (w : World) (v : Value) (e : Ending) (w' : World) : Prop := e = .returned v ∧ ∃ m, w' = w.drewN m

theorem flag16 (u u' T T1 v v1 : Nat) (nm nm' : ByteArray) (w : World) (h : RowAt w u (dotRow T v nm 0) 54) (h' : RowAt w u' (dotRow T1 v1 nm' 0) 54) : Calls Try.prog 16 #[.pointer (some ⟨u, 0, none⟩), .pointer (some ⟨u', 0, none⟩)] w (Quiet w (.bool true)) := by
  have c1 := fun m => (h.drewN m).cellv (j := 4) (v := .int .u8 0) rfl
  have c2 := fun m => (h.drewN m).cellv (j := 5) (v := .bool false) rfl
  have c3 := fun m => (h.drewN m).cellv (j := 6) (v := .bool false) rfl
  have c4 := fun m => (h.drewN m).cellv (j := 7) (v := .bool false) rfl
  have d1 := fun m => (h'.drewN m).cellv (j := 4) (v := .int .u8 0) rfl
  have d2 := fun m => (h'.drewN m).cellv (j := 5) (v := .bool false) rfl
  have d3 := fun m => (h'.drewN m).cellv (j := 6) (v := .bool false) rfl
  have d4 := fun m => (h'.drewN m).cellv (j := 7) (v := .bool false) rfl
  clear h h'
  go_enter Try.func16, Try.ntmps16
  go_wp2_with fail
  go_quiet (fail)
  go_wp2_with fail
  go_ret
  exact ⟨rfl, _, rfl⟩
theorem flag17 (u u' T T1 v v1 s s1 : Nat) (w : World) (h : RowAt w u (idxRow T v s 0) 61) (h' : RowAt w u' (idxRow T1 v1 s1 0) 61) : Calls Try.prog 17 #[.pointer (some ⟨u, 0, none⟩), .pointer (some ⟨u', 0, none⟩)] w (Quiet w (.bool true)) := by
  have c1 := fun m => (h.drewN m).cellv (j := 5) (v := .int .u8 0) rfl
  have c2 := fun m => (h.drewN m).cellv (j := 6) (v := .bool false) rfl
  have c3 := fun m => (h.drewN m).cellv (j := 7) (v := .bool false) rfl
  have c4 := fun m => (h.drewN m).cellv (j := 8) (v := .bool false) rfl
  have d1 := fun m => (h'.drewN m).cellv (j := 5) (v := .int .u8 0) rfl
  have d2 := fun m => (h'.drewN m).cellv (j := 6) (v := .bool false) rfl
  have d3 := fun m => (h'.drewN m).cellv (j := 7) (v := .bool false) rfl
  have d4 := fun m => (h'.drewN m).cellv (j := 8) (v := .bool false) rfl
  clear h h'
  go_enter Try.func17, Try.ntmps17
  go_wp2_with fail
  go_quiet (fail)
  go_wp2_with fail
  go_ret
  exact ⟨rfl, _, rfl⟩
theorem flag18 (u u' T T1 v v1 : Nat) (w : World) (h : RowAt w u (callRow T v 0) 65) (h' : RowAt w u' (callRow T1 v1 0) 65) : Calls Try.prog 18 #[.pointer (some ⟨u, 0, none⟩), .pointer (some ⟨u', 0, none⟩)] w (Quiet w (.bool true)) := by
  have c1 := fun m => (h.drewN m).cellv (j := 4) (v := .int .u8 0) rfl
  have c2 := fun m => (h.drewN m).cellv (j := 5) (v := .int .u8 0) rfl
  have c3 := fun m => (h.drewN m).cellv (j := 7) (v := .bool false) rfl
  have d1 := fun m => (h'.drewN m).cellv (j := 4) (v := .int .u8 0) rfl
  have d2 := fun m => (h'.drewN m).cellv (j := 5) (v := .int .u8 0) rfl
  have d3 := fun m => (h'.drewN m).cellv (j := 7) (v := .bool false) rfl
  clear h h'
  go_enter Try.func18, Try.ntmps18
  go_wp2_with fail
  go_quiet (fail)
  go_wp2_with fail
  go_ret
  exact ⟨rfl, _, rfl⟩

theorem check20 (T T' : Nat) (v v' : Value) (k : Int) (w : World) (hT : T = 47 ∨ T = 42 ∨ T = 43 ∨ T = 44) (hT' : T' = 47 ∨ T' = 42 ∨ T' = 43 ∨ T' = 44) : Calls Try.prog 20 #[.iface T v, .iface T' v', .int .u8 k] w fun e w' => e = .returned (.tuple #[.bool false, .bool false]) ∧ w = w' := by
  rcases hT with rfl | rfl | rfl | rfl <;> rcases hT' with rfl | rfl | rfl | rfl
  all_goals as_aux_lemma =>
    go_enter Try.func20, Try.ntmps20
    go_wp2_with fail
    go_ret2
    exact ⟨rfl, rfl⟩

end Go.Proofs.Ytjngpnijogfmdac.fnTryToInsertOptionalChainMarksExactlyTheTail
