import Derived.Test.YtfbjlgjlbndmkaaKit
import Derived.Test.YtfbjlgjlbndmkaaFcA
import Derived.Test.YtfbjlgjlbndmkaaBig
import Derived.ChangeKeysEq
import Derived.Laws.StructEq
namespace Go.Proofs.Ytfbjlgjlbndmkaa
open Go.ChangeShapes Go.WideShapes Go.ChangeAt Go.RowKit
set_option linter.unusedVariables false
set_option maxRecDepth 100000
set_option maxHeartbeats 2000000

def bitB (B : Int) (i : Nat) : Bool := bits BinOp.and IntKind.u16 (B / 2 ^ i) 1 == 1
theorem bit11 (B i : Int) (w : World) (h0 : 0 ≤ B) (h1 : B < 65536) (h2 : 0 ≤ i) (h3 : i < 11) : Calls Try.prog 11 #[.int .u16 B, .int .u64 i] w fun e w' => e = .returned (.bool (bitB B i.toNat)) ∧ w = w' := by
  go_enter Try.func11, Try.ntmps11
  go_wp2
  go_ret
  exact ⟨rfl, rfl⟩
/-- The cells of a config.Options as the law builds it. -/
def A92 (e : ByteArray) (f o m B : Int) (l mp rp : Value) : Array Value := #[.pointer none, .int .i32 0, .int .i32 0, .int .u8 0, .pointer none, .pointer none, mp, rp, .pointer none, .nilFunc, .string e, l, .slice none 0 0, .slice none 0 0, .slice none 0 0, .slice none 0 0, .map none, .slice none 0 0, .map none, .slice none 0 0, .bool false, .map none, .string ⟨#[]⟩, .string ⟨#[]⟩, .string ⟨#[]⟩, .string ⟨#[]⟩, .string ⟨#[]⟩, .slice none 0 0, .string ⟨#[]⟩, .string ⟨#[]⟩, .map none, .string ⟨#[]⟩, .slice none 0 0, .slice none 0 0, .slice none 0 0, .string ⟨#[]⟩, .string ⟨#[]⟩, .string ⟨#[]⟩, .string ⟨#[]⟩, .slice none 0 0, .slice none 0 0, .slice none 0 0, .slice none 0 0, .string ⟨#[]⟩, .pointer none, .nilIface, .slice none 0 0, .int .u32 0, .nilIface, .slice none 0 0, .int .u32 0, .bool false, .bool false, .bool false, .string ⟨#[]⟩, .bool false, .bool false, .int .i64 0, .map none, .int .u64 f, .int .u16 0, .int .u64 o, .int .u64 m, .int .u16 0, .int .u16 0, .int .u8 0, .int .u8 0, .int .u8 0, .int .u8 0, .int .u8 0, .int .u8 0, .bool false, .bool false, .int .u8 0, .bool false, .bool (bitB B 4), .bool (bitB B 3), .bool (bitB B 2), .bool false, .bool false, .bool false, .bool false, .int .u8 0, .int .u8 0, .int .u8 0, .int .u8 0, .int .u8 0, .bool false, .int .u8 0, .bool (bitB B 5), .bool (bitB B 6), .bool (bitB B 0), .bool (bitB B 1), .bool (bitB B 7), .bool (bitB B 8), .bool (bitB B 9), .bool (bitB B 10), .int .u8 0, .int .u8 0, .bool false, .int .u8 0, .bool false]
def S33 (e : ByteArray) (f o m B : Int) : Array Value := #[.string e, .pointer none, .int .i32 0, .int .i32 0, .int .u8 0, .int .u64 f, .int .u64 o, .int .u64 m, .int .u8 0, .int .u8 0, .int .u8 0, .int .u8 0, .int .u8 0, .int .u8 0, .bool false, .bool false, .int .u8 0, .int .u8 0, .int .u8 0, .int .u8 0, .int .u8 0, .bool (bitB B 0), .bool (bitB B 1), .bool (bitB B 2), .bool (bitB B 3), .bool (bitB B 4), .bool (bitB B 5), .bool (bitB B 6), .bool (bitB B 7), .bool (bitB B 8), .bool (bitB B 9), .bool (bitB B 10), .bool false]
def A66 (e : ByteArray) (f o m B : Int) (l mp rp : Value) : Array Value := #[.slice none 0 0, .nilIface, .slice none 0 0, .int .u32 0, .nilIface, .slice none 0 0, .int .u32 0, .bool false, .bool false, .bool false, .string ⟨#[]⟩, .bool false, .bool false, .pointer none, mp, rp, l, .pointer none, .string e, .pointer none, .int .i32 0, .int .i32 0, .int .u8 0, .int .u64 f, .int .u64 o, .int .u64 m, .int .u8 0, .int .u8 0, .int .u8 0, .int .u8 0, .int .u8 0, .int .u8 0, .bool false, .bool false, .int .u8 0, .int .u8 0, .int .u8 0, .int .u8 0, .int .u8 0, .bool (bitB B 0), .bool (bitB B 1), .bool (bitB B 2), .bool (bitB B 3), .bool (bitB B 4), .bool (bitB B 5), .bool (bitB B 6), .bool (bitB B 7), .bool (bitB B 8), .bool (bitB B 9), .bool (bitB B 10), .bool false]
def p92 (e : ByteArray) (f o m B : Int) (l : Value) : Array (Nat × Value) := #[(67, .bool (bitB B 0)), (68, .bool (bitB B 1)), (53, .bool (bitB B 2)), (52, .bool (bitB B 3)), (51, .bool (bitB B 4)), (65, .bool (bitB B 5)), (66, .bool (bitB B 6)), (69, .bool (bitB B 7)), (70, .bool (bitB B 8)), (71, .bool (bitB B 9)), (72, .bool (bitB B 10)), (7, .string e), (42, .int .u64 f), (44, .int .u64 o), (45, .int .u64 m), (8, l)]
theorem build92 (e : ByteArray) (f o m B : Int) (a : Option Addr) (n : Nat) (w : World) : (Instr.build 92 (p92 e f o m B (.slice a n n))).run Try.prog w = .ok (.agg (A92 e f o m B (.slice a n n) (.pointer none) (.pointer none))) w := by kernel_rfl
def p64 (e : ByteArray) (f o m B : Int) : Array (Nat × Value) := #[(2, .int .u64 f), (3, .int .u64 o), (4, .int .u64 m), (0, .string e), (5, .agg #[.int .u8 0, .int .u8 0, .int .u8 0, .int .u8 0, .int .u8 0, .int .u8 0, .bool false, .bool false]), (6, .int .u8 0), (7, .int .u8 0), (8, .int .u8 0), (1, .agg #[.pointer none, .int .i32 0, .int .i32 0, .int .u8 0]), (11, .bool (bitB B 0)), (12, .bool (bitB B 1)), (13, .bool (bitB B 2)), (14, .bool (bitB B 3)), (15, .bool (bitB B 4)), (16, .bool (bitB B 5)), (17, .bool (bitB B 6)), (18, .bool (bitB B 7)), (19, .bool (bitB B 8)), (20, .bool (bitB B 9)), (21, .bool (bitB B 10)), (9, .int .u8 0), (10, .int .u8 0)]
theorem build64 (e : ByteArray) (f o m B : Int) (w : World) : (Instr.build 64 (p64 e f o m B)).run Try.prog w = .ok (.agg (S33 e f o m B)) w := by kernel_rfl
def p66 (e : ByteArray) (f o m B : Int) (l mp rp : Value) : Array (Nat × Value) := #[(0, .slice none 0 0), (1, .agg #[.nilIface, .slice none 0 0, .int .u32 0, .nilIface, .slice none 0 0, .int .u32 0, .bool false, .bool false, .bool false, .string ⟨#[]⟩, .bool false, .bool false]), (6, .pointer none), (2, .pointer none), (3, mp), (4, rp), (5, l), (7, .agg (S33 e f o m B))]
theorem build66 (e : ByteArray) (f o m B : Int) (a : Option Addr) (n : Nat) (mp rp : Option Addr) (w : World) : (Instr.build 66 (p66 e f o m B (.slice a n n) (.pointer mp) (.pointer rp))).run Try.prog w = .ok (.agg (A66 e f o m B (.slice a n n) (.pointer mp) (.pointer rp))) w := by kernel_rfl
structure C92 (w : World) (p : Nat) (e : ByteArray) (f o m B : Int) (l mp rp : Value) : Prop where
  c0 : w.cell? ⟨p, 0, none⟩ = some (.pointer none)
  c1 : w.cell? ⟨p, 1, none⟩ = some (.int .i32 0)
  c2 : w.cell? ⟨p, 2, none⟩ = some (.int .i32 0)
  c3 : w.cell? ⟨p, 3, none⟩ = some (.int .u8 0)
  c4 : w.cell? ⟨p, 4, none⟩ = some (.pointer none)
  c5 : w.cell? ⟨p, 5, none⟩ = some (.pointer none)
  c6 : w.cell? ⟨p, 6, none⟩ = some (mp)
  c7 : w.cell? ⟨p, 7, none⟩ = some (rp)
  c10 : w.cell? ⟨p, 10, none⟩ = some (.string e)
  c11 : w.cell? ⟨p, 11, none⟩ = some (l)
  c34 : w.cell? ⟨p, 34, none⟩ = some (.slice none 0 0)
  c45 : w.cell? ⟨p, 45, none⟩ = some (.nilIface)
  c46 : w.cell? ⟨p, 46, none⟩ = some (.slice none 0 0)
  c47 : w.cell? ⟨p, 47, none⟩ = some (.int .u32 0)
  c48 : w.cell? ⟨p, 48, none⟩ = some (.nilIface)
  c49 : w.cell? ⟨p, 49, none⟩ = some (.slice none 0 0)
  c50 : w.cell? ⟨p, 50, none⟩ = some (.int .u32 0)
  c51 : w.cell? ⟨p, 51, none⟩ = some (.bool false)
  c52 : w.cell? ⟨p, 52, none⟩ = some (.bool false)
  c53 : w.cell? ⟨p, 53, none⟩ = some (.bool false)
  c54 : w.cell? ⟨p, 54, none⟩ = some (.string ⟨#[]⟩)
  c55 : w.cell? ⟨p, 55, none⟩ = some (.bool false)
  c56 : w.cell? ⟨p, 56, none⟩ = some (.bool false)
  c59 : w.cell? ⟨p, 59, none⟩ = some (.int .u64 f)
  c61 : w.cell? ⟨p, 61, none⟩ = some (.int .u64 o)
  c62 : w.cell? ⟨p, 62, none⟩ = some (.int .u64 m)
  c65 : w.cell? ⟨p, 65, none⟩ = some (.int .u8 0)
  c66 : w.cell? ⟨p, 66, none⟩ = some (.int .u8 0)
  c67 : w.cell? ⟨p, 67, none⟩ = some (.int .u8 0)
  c68 : w.cell? ⟨p, 68, none⟩ = some (.int .u8 0)
  c69 : w.cell? ⟨p, 69, none⟩ = some (.int .u8 0)
  c70 : w.cell? ⟨p, 70, none⟩ = some (.int .u8 0)
  c71 : w.cell? ⟨p, 71, none⟩ = some (.bool false)
  c72 : w.cell? ⟨p, 72, none⟩ = some (.bool false)
  c73 : w.cell? ⟨p, 73, none⟩ = some (.int .u8 0)
  c75 : w.cell? ⟨p, 75, none⟩ = some (.bool (bitB B 4))
  c76 : w.cell? ⟨p, 76, none⟩ = some (.bool (bitB B 3))
  c77 : w.cell? ⟨p, 77, none⟩ = some (.bool (bitB B 2))
  c83 : w.cell? ⟨p, 83, none⟩ = some (.int .u8 0)
  c84 : w.cell? ⟨p, 84, none⟩ = some (.int .u8 0)
  c89 : w.cell? ⟨p, 89, none⟩ = some (.bool (bitB B 5))
  c90 : w.cell? ⟨p, 90, none⟩ = some (.bool (bitB B 6))
  c91 : w.cell? ⟨p, 91, none⟩ = some (.bool (bitB B 0))
  c92 : w.cell? ⟨p, 92, none⟩ = some (.bool (bitB B 1))
  c93 : w.cell? ⟨p, 93, none⟩ = some (.bool (bitB B 7))
  c94 : w.cell? ⟨p, 94, none⟩ = some (.bool (bitB B 8))
  c95 : w.cell? ⟨p, 95, none⟩ = some (.bool (bitB B 9))
  c96 : w.cell? ⟨p, 96, none⟩ = some (.bool (bitB B 10))
  c97 : w.cell? ⟨p, 97, none⟩ = some (.int .u8 0)
  c98 : w.cell? ⟨p, 98, none⟩ = some (.int .u8 0)
theorem c92_of {w : World} {p : Nat} (e : ByteArray) (f o m B : Int) (l mp rp : Value) (h : RowAt w p (A92 e f o m B l mp rp) 92) : C92 w p e f o m B l mp rp :=
  ⟨h.cellv (by rfl), h.cellv (by rfl), h.cellv (by rfl), h.cellv (by rfl), h.cellv (by rfl), h.cellv (by rfl), h.cellv (by rfl), h.cellv (by rfl), h.cellv (by rfl), h.cellv (by rfl), h.cellv (by rfl), h.cellv (by rfl), h.cellv (by rfl), h.cellv (by rfl), h.cellv (by rfl), h.cellv (by rfl), h.cellv (by rfl), h.cellv (by rfl), h.cellv (by rfl), h.cellv (by rfl), h.cellv (by rfl), h.cellv (by rfl), h.cellv (by rfl), h.cellv (by rfl), h.cellv (by rfl), h.cellv (by rfl), h.cellv (by rfl), h.cellv (by rfl), h.cellv (by rfl), h.cellv (by rfl), h.cellv (by rfl), h.cellv (by rfl), h.cellv (by rfl), h.cellv (by rfl), h.cellv (by rfl), h.cellv (by rfl), h.cellv (by rfl), h.cellv (by rfl), h.cellv (by rfl), h.cellv (by rfl), h.cellv (by rfl), h.cellv (by rfl), h.cellv (by rfl), h.cellv (by rfl), h.cellv (by rfl), h.cellv (by rfl), h.cellv (by rfl), h.cellv (by rfl), h.cellv (by rfl), h.cellv (by rfl)⟩
theorem a66_size (e : ByteArray) (f o m B : Int) (l mp rp : Value) : (A66 e f o m B l mp rp).size = 51 := rfl
theorem a92_size (e : ByteArray) (f o m B : Int) (l mp rp : Value) : (A92 e f o m B l mp rp).size = 102 := rfl
theorem a92_mp (e : ByteArray) (f o m B : Int) (l mp rp x : Value) : (A92 e f o m B l mp rp).setIfInBounds 6 x = A92 e f o m B l x rp := rfl
theorem a92_rp (e : ByteArray) (f o m B : Int) (l mp rp x : Value) : (A92 e f o m B l mp rp).setIfInBounds 7 x = A92 e f o m B l mp x := rfl
theorem a92_one (e : ByteArray) (f o m B : Int) (a : Option Addr) (n : Nat) (mp rp : Option Addr) : (A92 e f o m B (.slice a n n) (.pointer mp) (.pointer rp)).all (·.oneCell') = true := by kernel_rfl
theorem a66_one (e : ByteArray) (f o m B : Int) (a : Option Addr) (n : Nat) (mp rp : Option Addr) : (A66 e f o m B (.slice a n n) (.pointer mp) (.pointer rp)).all (·.oneCell') = true := by kernel_rfl

section
variable {P : Program} {w : World}
theorem eqf_cons {d : Nat} {xs ys : Array Value} {f : Field} {fs : List Field} {a b : Value} {r r' : Bool} (hn : f.name ≠ "_") (p1 : (part f.type xs f.offset).run P w = .ok a w) (p2 : (part f.type ys f.offset).run P w = .ok b w)
    (p3 : (Op.equalIn d f.type a b).run P w = .ok r w) (h : (Op.eqFields d xs ys fs).run P w = .ok r' w) : (Op.eqFields d xs ys (f :: fs)).run P w = .ok (r && r') w := by
  simp only [Op.eqFields, hn, ne_eq, not_false_eq_true, if_true, Sem.run_bind, p1, p2, p3, Result.andThen_ok]
  cases r
  · simp
  · simpa using h
end
def eqS (e e' : ByteArray) (f f' o o' m m' B B' : Int) : Bool := ((e.toList == e'.toList) && (true && ((f == f') && ((o == o') && ((m == m') && (true && (true && (true && (true && (true && (true && ((bitB B 0 == bitB B' 0) && ((bitB B 1 == bitB B' 1) && ((bitB B 2 == bitB B' 2) && ((bitB B 3 == bitB B' 3) && ((bitB B 4 == bitB B' 4) && ((bitB B 5 == bitB B' 5) && ((bitB B 6 == bitB B' 6) && ((bitB B 7 == bitB B' 7) && ((bitB B 8 == bitB B' 8) && ((bitB B 9 == bitB B' 9) && ((bitB B 10 == bitB B' 10) && (true && true)))))))))))))))))))))))
theorem run_eqS (e e' : ByteArray) (f f' o o' m m' B B' : Int) (w : World) : (Op.equalIn 10000 64 (.agg (S33 e f o m B)) (.agg (S33 e' f' o' m' B'))).run Try.prog w = .ok (eqS e e' f f' o o' m m' B B') w := by
  rw [run_equalIn_agg w 9999 64 _ _ (by simp only [Program.fieldsOf, Try.underlying64]) (by kernel_rfl)]
  simp only [Program.fieldsOf, Try.underlying64]
  unfold eqS
  refine eqf_cons (a := Value.string e) (b := Value.string e') (r := (e.toList == e'.toList)) (by decide) (by kernel_rfl) (by kernel_rfl) (run_equalIn_string _ _ 9 _ _ Try.underlying9) ?_
  refine eqf_cons (a := .agg #[.pointer none, .int .i32 0, .int .i32 0, .int .u8 0]) (b := .agg #[.pointer none, .int .i32 0, .int .i32 0, .int .u8 0]) (r := true) (by decide) (by kernel_rfl) (by kernel_rfl) (by kernel_rfl) ?_
  refine eqf_cons (a := Value.int IntKind.u64 f) (b := Value.int IntKind.u64 f') (r := (f == f')) (by decide) (by kernel_rfl) (by kernel_rfl) (run_equalIn_int _ _ 51 .u64 .u64 _ _ Try.underlying51) ?_
  refine eqf_cons (a := Value.int IntKind.u64 o) (b := Value.int IntKind.u64 o') (r := (o == o')) (by decide) (by kernel_rfl) (by kernel_rfl) (run_equalIn_int _ _ 51 .u64 .u64 _ _ Try.underlying51) ?_
  refine eqf_cons (a := Value.int IntKind.u64 m) (b := Value.int IntKind.u64 m') (r := (m == m')) (by decide) (by kernel_rfl) (by kernel_rfl) (run_equalIn_int _ _ 51 .u64 .u64 _ _ Try.underlying51) ?_
  refine eqf_cons (a := .agg #[.int .u8 0, .int .u8 0, .int .u8 0, .int .u8 0, .int .u8 0, .int .u8 0, .bool false, .bool false]) (b := .agg #[.int .u8 0, .int .u8 0, .int .u8 0, .int .u8 0, .int .u8 0, .int .u8 0, .bool false, .bool false]) (r := true) (by decide) (by kernel_rfl) (by kernel_rfl) (by kernel_rfl) ?_
  refine eqf_cons (a := .int .u8 0) (b := .int .u8 0) (r := true) (by decide) (by kernel_rfl) (by kernel_rfl) (by kernel_rfl) ?_
  refine eqf_cons (a := .int .u8 0) (b := .int .u8 0) (r := true) (by decide) (by kernel_rfl) (by kernel_rfl) (by kernel_rfl) ?_
  refine eqf_cons (a := .int .u8 0) (b := .int .u8 0) (r := true) (by decide) (by kernel_rfl) (by kernel_rfl) (by kernel_rfl) ?_
  refine eqf_cons (a := .int .u8 0) (b := .int .u8 0) (r := true) (by decide) (by kernel_rfl) (by kernel_rfl) (by kernel_rfl) ?_
  refine eqf_cons (a := .int .u8 0) (b := .int .u8 0) (r := true) (by decide) (by kernel_rfl) (by kernel_rfl) (by kernel_rfl) ?_
  refine eqf_cons (a := Value.bool (bitB B 0)) (b := Value.bool (bitB B' 0)) (r := (bitB B 0 == bitB B' 0)) (by decide) (by kernel_rfl) (by kernel_rfl) (run_equalIn_bool' _ _ 4 _ _ Try.underlying4) ?_
  refine eqf_cons (a := Value.bool (bitB B 1)) (b := Value.bool (bitB B' 1)) (r := (bitB B 1 == bitB B' 1)) (by decide) (by kernel_rfl) (by kernel_rfl) (run_equalIn_bool' _ _ 4 _ _ Try.underlying4) ?_
  refine eqf_cons (a := Value.bool (bitB B 2)) (b := Value.bool (bitB B' 2)) (r := (bitB B 2 == bitB B' 2)) (by decide) (by kernel_rfl) (by kernel_rfl) (run_equalIn_bool' _ _ 4 _ _ Try.underlying4) ?_
  refine eqf_cons (a := Value.bool (bitB B 3)) (b := Value.bool (bitB B' 3)) (r := (bitB B 3 == bitB B' 3)) (by decide) (by kernel_rfl) (by kernel_rfl) (run_equalIn_bool' _ _ 4 _ _ Try.underlying4) ?_
  refine eqf_cons (a := Value.bool (bitB B 4)) (b := Value.bool (bitB B' 4)) (r := (bitB B 4 == bitB B' 4)) (by decide) (by kernel_rfl) (by kernel_rfl) (run_equalIn_bool' _ _ 4 _ _ Try.underlying4) ?_
  refine eqf_cons (a := Value.bool (bitB B 5)) (b := Value.bool (bitB B' 5)) (r := (bitB B 5 == bitB B' 5)) (by decide) (by kernel_rfl) (by kernel_rfl) (run_equalIn_bool' _ _ 4 _ _ Try.underlying4) ?_
  refine eqf_cons (a := Value.bool (bitB B 6)) (b := Value.bool (bitB B' 6)) (r := (bitB B 6 == bitB B' 6)) (by decide) (by kernel_rfl) (by kernel_rfl) (run_equalIn_bool' _ _ 4 _ _ Try.underlying4) ?_
  refine eqf_cons (a := Value.bool (bitB B 7)) (b := Value.bool (bitB B' 7)) (r := (bitB B 7 == bitB B' 7)) (by decide) (by kernel_rfl) (by kernel_rfl) (run_equalIn_bool' _ _ 4 _ _ Try.underlying4) ?_
  refine eqf_cons (a := Value.bool (bitB B 8)) (b := Value.bool (bitB B' 8)) (r := (bitB B 8 == bitB B' 8)) (by decide) (by kernel_rfl) (by kernel_rfl) (run_equalIn_bool' _ _ 4 _ _ Try.underlying4) ?_
  refine eqf_cons (a := Value.bool (bitB B 9)) (b := Value.bool (bitB B' 9)) (r := (bitB B 9 == bitB B' 9)) (by decide) (by kernel_rfl) (by kernel_rfl) (run_equalIn_bool' _ _ 4 _ _ Try.underlying4) ?_
  refine eqf_cons (a := Value.bool (bitB B 10)) (b := Value.bool (bitB B' 10)) (r := (bitB B 10 == bitB B' 10)) (by decide) (by kernel_rfl) (by kernel_rfl) (run_equalIn_bool' _ _ 4 _ _ Try.underlying4) ?_
  refine eqf_cons (a := Value.bool false) (b := Value.bool false) (r := true) (by decide) (by kernel_rfl) (by kernel_rfl) ((run_equalIn_bool' _ _ 4 false false Try.underlying4)) ?_
  simp [Op.eqFields]


end Go.Proofs.Ytfbjlgjlbndmkaa
