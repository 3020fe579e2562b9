import Derived.Test.YtfbjlgjlbndmkaaKit
import Derived.Test.YtfbjlgjlbndmkaaFcF
namespace Go.Proofs.Ytfbjlgjlbndmkaa
open Go.ChangeShapes Go.WideShapes Go.ChangeAt Go.RowKit
set_option linter.unusedVariables false
set_option maxRecDepth 100000
set_option maxHeartbeats 2000000

/-- What zzBuild hands back. -/
def Built (w : World) (e : ByteArray) (f o m B : Int) (mn rn : Bool) (n : Nat) (Sx : Nat → ByteArray) (en : Ending) (w' : World) : Prop :=
  ∃ a' mp rp, en = .returned (.agg (A66 e f o m B (.slice a' n n) (rxV mp) (rxV rp))) ∧ IsStrs w' a' n n Sx ∧ RxAt w' mp ∧ RxAt w' rp ∧ mp.isNone = mn ∧ rp.isNone = rn ∧ Below w.heap.size w w'
theorem rx_none (w : World) : RxAt w none := fun p h => by cases h
theorem rx_later {w w' : World} {x : Option Nat} {B : Nat} (h : RxAt w x) (hb : Below B w w') (hB : w.heap.size ≤ B) : RxAt w' x := fun p hp => (hb.cell (Nat.lt_of_lt_of_le (cell_lt (h p hp)) hB)).trans (h p hp)
/-- Nothing but block p has turned. -/
def Only (p : Nat) (w w' : World) : Prop := ∀ k, k ≠ p → w'.heap[k]? = w.heap[k]?
theorem only_set (w : World) (p j : Nat) (v : Value) : Only p w (w.setCell ⟨p, j, none⟩ v) := fun k hk => Below.heap_setCell _ _ _ _ hk
theorem only_row (w : World) (p : Nat) (cs : Array Value) : Only p w (w.setRow p cs) := fun k hk => setRow_other w p k cs hk
theorem only_cell {w w' : World} {p : Nat} {x : Addr} (h : Only p w w') (hx : x.block ≠ p) : w'.cell? x = w.cell? x := by
  unfold World.cell?
  rw [h x.block hx]
theorem rx_only {w w' : World} {x : Option Nat} {p : Nat} (h : RxAt w x) (ho : Only p w w') (hx : x ≠ some p) : RxAt w' x := fun q hq => (only_cell ho (by intro e; subst e; exact hx hq)).trans (h q hq)
theorem strs_only {w w' : World} {p : Nat} {a : Option Addr} {n c : Nat} {Sx : Nat → ByteArray} (h : IsStrs w a n c Sx) (ho : Only p w w') (hq : ∀ x i, a = some x → i < c → (x.add i).block ≠ p) : IsStrs w' a n c Sx := by
  rcases h with h | ⟨x, hx, hl, hc, hcell⟩
  · exact .inl h
  · exact .inr ⟨x, hx, hl, hc, fun i hi => ⟨(only_cell ho (hq x i hx hi)).trans (hcell i hi).1, (hcell i hi).2⟩⟩
theorem rxV_none : rxV none = .pointer none := rfl
theorem rxV_some (q : Nat) : rxV (some q) = .pointer (some ⟨q, 0, none⟩) := rfl
/-- The state behind the literal: the config's cells, the result's variable, the built options. -/
structure St7 (w : World) (b r p : Nat) (a' : Option Addr) (Sx : Nat → ByteArray) (e : ByteArray) (f o m B : Int) (mn rn : Bool) (a : Option Addr) (n c : Nat) (mp rp : Option Nat) (W : World) : Prop where
  rowb : RowAt W b (CV e f o m B mn rn a n c) 26
  rowr : RowAt W r PZ66 66
  rowp : RowAt W p (A92 e f o m B (.slice a' n n) (rxV mp) (rxV rp)) 92
  labs : IsStrs W a' n n Sx
  rxm : RxAt W mp
  rxr : RxAt W rp
  below : Below w.heap.size w W
  hp : w.heap.size ≤ p
  hr : w.heap.size ≤ r
  hpb : b ≠ p
  hpr : r ≠ p
  hlp : ∀ x i, a' = some x → i < n → (x.add i).block ≠ p
  hlr : ∀ x i, a' = some x → i < n → (x.add i).block ≠ r
  hmp : mp ≠ some p
  hrp : rp ≠ some p
  hmr : mp ≠ some r
  hrr : rp ≠ some r
theorem St7.later {w : World} {b r p : Nat} {a' : Option Addr} {Sx : Nat → ByteArray} {e : ByteArray} {f o m B : Int} {mn rn : Bool} {a : Option Addr} {n c : Nat} {mp rp : Option Nat} {W W' : World} (H : St7 w b r p a' Sx e f o m B mn rn a n c mp rp W) (hb : Below W.heap.size W W') : St7 w b r p a' Sx e f o m B mn rn a n c mp rp W' :=
  { H with rowb := H.rowb.below hb H.rowb.lt, rowr := H.rowr.below hb H.rowr.lt, rowp := H.rowp.below hb H.rowp.lt, labs := strs_later H.labs hb (Nat.le_refl _), rxm := rx_later H.rxm hb (Nat.le_refl _), rxr := rx_later H.rxr hb (Nat.le_refl _), below := H.below.trans (hb.mono H.below.size) }
theorem St7.setm {w : World} {b r p : Nat} {a' : Option Addr} {Sx : Nat → ByteArray} {e : ByteArray} {f o m B : Int} {mn rn : Bool} {a : Option Addr} {n c : Nat} {mp rp : Option Nat} {W : World} (H : St7 w b r p a' Sx e f o m B mn rn a n c mp rp W) (q : Nat) (hq : RxAt W (some q)) (h1 : q ≠ p) (h2 : q ≠ r) : St7 w b r p a' Sx e f o m B mn rn a n c (some q) rp (W.setCell ⟨p, 6, none⟩ (.pointer (some ⟨q, 0, none⟩))) :=
  { H with
    rowb := (only_set W p 6 _ b H.hpb).trans H.rowb
    rowr := (only_set W p 6 _ r H.hpr).trans H.rowr
    rowp := H.rowp.set 6 (.pointer (some ⟨q, 0, none⟩))
    labs := strs_only H.labs (only_set W p 6 _) H.hlp
    rxm := rx_only hq (only_set W p 6 _) (fun e => h1 (Option.some.inj e))
    rxr := rx_only H.rxr (only_set W p 6 _) H.hrp
    below := H.below.setCell H.hp _
    hmp := fun e => h1 (Option.some.inj e)
    hmr := fun e => h2 (Option.some.inj e) }
theorem St7.setr {w : World} {b r p : Nat} {a' : Option Addr} {Sx : Nat → ByteArray} {e : ByteArray} {f o m B : Int} {mn rn : Bool} {a : Option Addr} {n c : Nat} {mp rp : Option Nat} {W : World} (H : St7 w b r p a' Sx e f o m B mn rn a n c mp rp W) (q : Nat) (hq : RxAt W (some q)) (h1 : q ≠ p) (h2 : q ≠ r) : St7 w b r p a' Sx e f o m B mn rn a n c mp (some q) (W.setCell ⟨p, 7, none⟩ (.pointer (some ⟨q, 0, none⟩))) :=
  { H with
    rowb := (only_set W p 7 _ b H.hpb).trans H.rowb
    rowr := (only_set W p 7 _ r H.hpr).trans H.rowr
    rowp := H.rowp.set 7 (.pointer (some ⟨q, 0, none⟩))
    labs := strs_only H.labs (only_set W p 7 _) H.hlp
    rxm := rx_only H.rxm (only_set W p 7 _) H.hmp
    rxr := rx_only hq (only_set W p 7 _) (fun e => h1 (Option.some.inj e))
    below := H.below.setCell H.hp _
    hrp := fun e => h1 (Option.some.inj e)
    hrr := fun e => h2 (Option.some.inj e) }
theorem St7.fin {w : World} {b r p : Nat} {a' : Option Addr} {Sx : Nat → ByteArray} {e : ByteArray} {f o m B : Int} {mn rn : Bool} {a : Option Addr} {n c : Nat} {mp rp : Option Nat} {W : World} (H : St7 w b r p a' Sx e f o m B mn rn a n c mp rp W) (cs : Array Value) : IsStrs (W.setRow r cs) a' n n Sx ∧ RxAt (W.setRow r cs) mp ∧ RxAt (W.setRow r cs) rp ∧ Below w.heap.size w (W.setRow r cs) :=
  ⟨strs_only H.labs (only_row W r cs) H.hlr, rx_only H.rxm (only_row W r cs) H.hmr, rx_only H.rxr (only_row W r cs) H.hrr, below_setRow H.below H.hr _⟩

end Go.Proofs.Ytfbjlgjlbndmkaa
