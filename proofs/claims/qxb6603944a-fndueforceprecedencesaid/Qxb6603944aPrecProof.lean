/-
  FnDueForcePrecedence: the row.
-/
import Derived.Test.Qxb6603944aPrecWalk
import Derived.Test.Qxb6603944aOpenRule
namespace Go.Proofs.Qxb6603944a
open Go.ChangeShapes Go.WideShapes Go.ChangeAt Go.RowKit Go.Deep
set_option linter.unusedVariables false

theorem prec_some (paid se : Bool) (sa : Int) (w : World) (b o : Nat) (tr : ByteArray) (th am fa : Int) (fe : Bool) (p : Option Addr) (hR : RuleIn w b o tr th am fa fe p) (hP : TierP w p) (hs : tr.size ≤ maxLen) :
    Calls Try.prog 5 #[.pointer (some ⟨b, o, none⟩), .bool paid, .agg #[.bool se, .int .i64 sa]] w fun e w' => e = .returned (.bool true) ∧ Below w.heap.size w w' := by
  cases paid with
  | true =>
    cases se with
    | true => exact law5_paid_true sa w b o tr th am fa fe p hR hP hs
    | false => exact law5_paid_false sa w b o tr th am fa fe p hR hP hs
  | false =>
    cases h : (tr.toList == sSingle) with
    | true =>
      have hon : pfOn tr fe = true := by unfold pfOn; rw [if_pos h]
      have ham : pfAmt tr th fa = th := by unfold pfAmt; rw [if_pos h]
      cases se with
      | true => exact law5_single_true sa w b o tr th am fa fe p hR hP hs h hon ham
      | false => exact law5_single_false sa w b o tr th am fa fe p hR hP hs h hon ham
    | false =>
      have hne : ¬ (tr.toList == sSingle) = true := by rw [h]; simp
      have hon : pfOn tr fe = fe := by unfold pfOn; rw [if_neg hne]
      have ham : pfAmt tr th fa = fa := by unfold pfAmt; rw [if_neg hne]
      cases fe with
      | true =>
        cases se with
        | true => exact law5_force_true sa w b o tr th am fa p hR hP hs h hon ham
        | false => exact law5_force_false sa w b o tr th am fa p hR hP hs h hon ham
      | false =>
        cases se with
        | true => exact law5_shop sa w b o tr th am fa p hR hP hs h hon
        | false => exact law5_no sa w b o tr th am fa p hR hP hs h hon

set_option maxRecDepth 100000 in
theorem prec_lifted (os : Os) (started : os.Started) (H : Type) (enc : TypeId × Value → H) :
    ReturnsInHanded {} Try.checked os 5 .any (Rows.fnDueForcePrecedenceSpec.pre6 enc Try.prog Try.f5 Rows.fnDueForcePrecedenceRow.domain false) (Rows.fnDueForcePrecedenceSpec.post enc Try.prog Try.f5 false true false false) := by
  refine returnsInHanded_of_change (C := Try.checked) own started (by kernel_rfl) Try.func5
    (ChangeSpec.witness6 (enc := enc) (C := Try.checked) false ⟨#[], #[.pointer none, .bool false, .agg #[.bool false, .int .i64 0]], []⟩ 8 (by kernel_rfl) (by kernel_rfl) (by kernel_rfl) (by kernel_rfl)) ?_
  intro W base args ds gs before hval0 hW hcnd _
  have hval : ∀ (j : Nat) t v, Try.f5.params[j]? = some t → args[j]? = some v → Value.okWide Try.prog W .any base t v := hval0
  have hW' := hW
  obtain ⟨p, q, hA0, hV, rfl, hfz, hnd⟩ := hW
  have hA : DataW.TrodAll enc Try.prog W 0 (fun _ => true) true Try.f5.params.toList args.toList ds p := hA0
  rw [Try.params5] at hA hval
  obtain ⟨v0, vs0, d0, ds0, p0, q0, hargs, rfl, rfl, h0, r0⟩ := trodAll_cons hA
  obtain ⟨v1, vs1, d1, ds1, p1, q1, rfl, rfl, rfl, h1, r1⟩ := trodAll_cons r0
  obtain ⟨v2, vs2, d2, ds2, p2, q2, rfl, rfl, rfl, h2, r2⟩ := trodAll_cons r1
  obtain ⟨rfl, rfl, rfl⟩ := trodAll_nil r2
  obtain rfl : args = #[v0, v1, v2] := by cases args; simp_all
  obtain ⟨rfl, rfl⟩ := trodVars_none hV
  have k0 := h0
  have k2 := h2
  have lt0 : ∀ x ∈ p0, x.block < W.heap.size := by obtain ⟨m, hm⟩ := k0; exact DataW.trod_lt m _ _ _ hm
  have lt2 : ∀ x ∈ p2, x.block < W.heap.size := by obtain ⟨m, hm⟩ := k2; exact DataW.trod_lt m _ _ _ hm
  have rule := open_rule (hval 0 44 v0 rfl rfl) h0
  obtain ⟨paid, rfl, rfl, rfl⟩ := open_bool Try.underlying4 (hval 1 4 v1 rfl rfl) h1
  obtain ⟨se, sa, hforce⟩ := open_force (hval 2 45 v2 rfl rfl) h2
  have walk : Calls Try.prog 5 #[v0, .bool paid, v2] W fun e w' => e = .returned (.bool true) ∧ Below W.heap.size W w' := by
    rw [hforce]
    rcases rule with e | ⟨b, o, tr, th, am, fa, fe, p, e, hR, hP, hs⟩
    · rw [e]; exact law5_nil paid se sa W
    · rw [e]; exact prec_some paid se sa W b o tr th am fa fe p hR hP hs
  clear hA0 hval0
  refine walk.mono fun e W' ⟨he, bel⟩ => ?_
  subst he
  exact ⟨_, rfl, _, _, _, [], _, [], hW', trodAll_mk1 (shut_bool Try.underlying4 _),
    (trodAll_cons_mk (Below.trod laidOut (by kernel_rfl) (of_decide_eq_true (by kernel_rfl)) k0 bel lt0) (trodAll_cons_mk (shut_bool Try.underlying4 paid) (trodAll_cons_mk (Below.trod laidOut (by kernel_rfl) (of_decide_eq_true (by kernel_rfl)) k2 bel lt2) trodAll_mk0))), rfl, bel.frame _, fun h => by cases h⟩

theorem prec_over : Rows.fnDueForcePrecedenceRow.holds Try.pinned (OpenSpec.ofChange Rows.fnDueForcePrecedenceSpec) :=
  OpenClaim.holds_of_wide 5 Try.f5 rfl rfl rfl rfl rfl rfl rfl ⟨rfl, rfl, rfl, rfl, rfl⟩ rfl rfl rfl rfl rfl (by kernel_rfl) Try.func5 (by kernel_rfl)
    (of_decide_eq_true (by kernel_rfl)) (by unfold Func.isWrapper; first | (rw [if_pos (by decide +kernel)]; kernel_rfl) | (rw [if_neg (by decide +kernel)]; exact ⟨rfl, rfl⟩))
    (fun os started H enc _ => prec_lifted os started H enc)

/-- the statement -/
theorem fnDueForcePrecedence_proved : Rows.FnDueForcePrecedenceSaid := prec_over
end Go.Proofs.Qxb6603944a
