/-
  What a *CB1Rule and a CB1Force that came in read as, for the walks.
-/
import Derived.Test.Qxb6603944aRule
import Derived.Test.Qxb6603944aOpen
import Derived.Lib.SmallJoins
namespace Go.Proofs.Qxb6603944a
open Go.ChangeShapes Go.WideShapes Go.ChangeAt Go.RowKit Go.Deep
set_option linter.unusedVariables false

theorem cells53 : Try.prog.cellsOf 53 = 6 := by kernel_rfl
theorem cells45 : Try.prog.cellsOf 45 = 2 := by kernel_rfl
theorem cells9' : Try.prog.cellsOf 9 = 1 := by kernel_rfl
theorem cells22 : Try.prog.cellsOf 22 = 1 := by kernel_rfl
theorem cells4 : Try.prog.cellsOf 4 = 1 := by kernel_rfl

theorem open_rule {H : Type} {enc : TypeId × Value → H} {w : World} {held : Bool} {r : Reach} {b0 : Nat} {v : Value} {d : DataW H} {ps : List MemPlace}
    (hval : Value.okWide Try.prog w r b0 44 v) (hd : DataW.Trod enc Try.prog w 0 (fun _ => true) held 44 v d ps) :
    v = .pointer none ∨ ∃ b o tr th am fa fe p, v = .pointer (some ⟨b, o, none⟩) ∧ RuleIn w b o tr th am fa fe p ∧ TierP w p ∧ tr.size ≤ maxLen := by
  rcases Go.ChangeShapes.open_ptr Try.underlying44 (by rw [cells53]; omega) hval hd with ⟨h, _⟩ | ⟨b, off, cs, y, fuel, rfl, _, _, hlen, hcell, hy⟩
  · exact .inl h
  · right
    rw [cells53] at hlen hcell
    match cs, hlen with
    | [x0, x1, x2, x3, x4, x5], _ =>
    obtain ⟨xs, n, _, _, _, hxl, hf⟩ := DataW.trod_struct Try.underlying53 hy
    have hxl : xs.length = 5 := hxl
    match xs, hxl with
    | [y0, y1, y2, y3, y4], _ =>
    have f0 := hf 0 _ rfl
    have f1 := hf 1 _ rfl
    have f2 := hf 2 _ rfl
    have f3 := hf 3 _ rfl
    have f4 := hf 4 _ rfl
    simp [cells9', cells2, cells22, cells45] at f0 f1 f2 f3 f4
    obtain ⟨tr, e0, _, hs⟩ := DataW.trod_string Try.underlying9 f0
    obtain ⟨th, e1, _, _⟩ := DataW.trod_int Try.underlying2 f1
    obtain ⟨am, e2, _, _⟩ := DataW.trod_int Try.underlying2 f2
    have tp := open_tiers f3
    obtain ⟨zs, m, _, _, _, hzl, hg⟩ := DataW.trod_struct Try.underlying45 f4
    have hzl : zs.length = 2 := hzl
    match zs, hzl with
    | [z0, z1], _ =>
    have g0 := hg 0 _ rfl
    have g1 := hg 1 _ rfl
    simp [cells4, cells2] at g0 g1
    obtain ⟨fe, e4, _⟩ := DataW.trod_bool Try.underlying4 g0
    obtain ⟨fa, e5, _, _⟩ := DataW.trod_int Try.underlying2 g1
    have c0 := hcell 0 (by omega)
    have c1 := hcell 1 (by omega)
    have c2 := hcell 2 (by omega)
    have c3 := hcell 3 (by omega)
    have c4 := hcell 4 (by omega)
    have c5 := hcell 5 (by omega)
    simp at c0 c1 c2 c3 c4 c5 e0 e1 e2 e4 e5
    rw [e0] at c0
    rw [e1] at c1
    rw [e2] at c2
    rw [e4] at c4
    rw [e5] at c5
    rcases tp with e3 | ⟨b', o', dim, k, T, A, e3, hd, hk, ht⟩
    · rw [e3] at c3
      exact ⟨b, off, tr, th, am, fa, fe, none, rfl, ⟨c0, c1, c2, c3, c4, c5⟩, .inl rfl, hs⟩
    · rw [e3] at c3
      exact ⟨b, off, tr, th, am, fa, fe, _, rfl, ⟨c0, c1, c2, c3, c4, c5⟩, .inr ⟨b', o', dim, k, T, A, rfl, ht, hd, hk⟩, hs⟩

theorem open_force {H : Type} {enc : TypeId × Value → H} {w : World} {held : Bool} {r : Reach} {b0 : Nat} {v : Value} {d : DataW H} {ps : List MemPlace}
    (hval : Value.okWide Try.prog w r b0 45 v) (hd : DataW.Trod enc Try.prog w 0 (fun _ => true) held 45 v d ps) : ∃ se sa, v = .agg #[.bool se, .int .i64 sa] := by
  obtain ⟨v0, v1, y0, y1, n, rfl, _, _, h0, h1⟩ := Go.Joins.open_agg2 Try.underlying45 (by kernel_rfl) cells45 hval hd
  obtain ⟨se, e0, _⟩ := DataW.trod_bool Try.underlying4 h0
  obtain ⟨sa, e1, _, _⟩ := DataW.trod_int Try.underlying2 h1
  obtain rfl : v0 = .bool se := by simpa using e0
  obtain rfl : v1 = .int .i64 sa := by simpa using e1
  exact ⟨se, sa, rfl⟩

end Go.Proofs.Qxb6603944a
