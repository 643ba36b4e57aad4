/-
  FnCycleIsNilExactlyWhenAcyclicElseAShortestCycle: the row.
-/
import Derived.Test.Qxb6600485aLaw
import Derived.ProofKit
import Derived.ShutString
import Derived.ChangeOld
import Derived.OpenShut
import Derived.Below
import Derived.Deep.Fields23
import Derived.Deep.Matrix
namespace Go.Proofs.Qxb6600485a
open Go.ChangeShapes Go.WideShapes Go.ChangeAt Go.RowKit Go.Deep
set_option linter.unusedVariables false

theorem own : ownKnob Try.prog.godebug = none := by kernel_rfl
theorem laidOut : laidOutB Try.prog = true := by kernel_rfl
theorem cells22 : Try.prog.cellsOf 22 = 1 := by kernel_rfl
theorem cells3 : Try.prog.cellsOf 3 = 1 := by kernel_rfl

/-- what a [][]int that came in reads as -/
theorem open_graph {H : Type} {enc : TypeId × Value → H} {w : World} {base : Nat} {held : Bool} {fuel : Nat} {a : Option Addr} {n c : Nat} {x : DataW H × List MemPlace}
    (h : DataW.trod enc Try.prog w base (fun _ => true) held fuel 23 [.slice a n c] = some x) : ∃ L G, GRow w a n c L G := by
  rcases open_int_rows Try.underlying23 Try.underlying22 Try.underlying3 cells22 cells3 h with ⟨hcs, _⟩ | ⟨ad, len, cap, A, L, C, Z, hcs, _, hl, hm, _, hx⟩
  · simp at hcs
    obtain ⟨rfl, rfl, rfl⟩ := hcs
    exact ⟨fun _ => 0, fun _ _ => 0, fun _ => ⟨rfl, rfl⟩, fun h => absurd h (by omega)⟩
  · simp at hcs
    obtain ⟨rfl, rfl, rfl⟩ := hcs
    refine ⟨L, fun i j => (Z i).getD j 0, by simp, fun hn => ?_⟩
    obtain ⟨b, off, spot⟩ := ad
    have hspot : spot = none := by
      have := (hx 0 (by omega)).1
      simpa [Addr.add] using World.cell?_spot this
    subst hspot
    refine ⟨b, off, rfl, fun i hi => ?_⟩
    obtain ⟨h1, h2, h3, h4, h5, h6, h7⟩ := hx i (by omega)
    rw [add_plain] at h1
    refine ⟨A i, C i, h1, fun h0 => ⟨by have := h6 h0; omega, h6 h0⟩, fun h0 => ?_⟩
    cases ha : A i with
    | none => have := h6 ha; omega
    | some a' =>
      obtain ⟨_, hc⟩ := h7 a' ha
      obtain ⟨b', off', spot'⟩ := a'
      have hspot' : spot' = none := by
        have := hc 0 (by omega)
        simpa [Addr.add] using World.cell?_spot this
      subst hspot'
      refine ⟨b', off', rfl, fun j hj => ?_⟩
      have := hc j (by omega)
      rwa [add_plain] at this

set_option maxRecDepth 100000 in
theorem cycle_lifted (os : Os) (started : os.Started) (H : Type) (enc : TypeId × Value → H) :
    ReturnsInHanded {} Try.checked os 4 .any (Rows.fnCycleIsNilExactlyWhenAcyclicElseAShortestCycleSpec.pre6 enc Try.prog Try.f4 Rows.fnCycleIsNilExactlyWhenAcyclicElseAShortestCycleRow.domain false) (Rows.fnCycleIsNilExactlyWhenAcyclicElseAShortestCycleSpec.post enc Try.prog Try.f4 false true false false) := by
  refine returnsInHanded_of_change (C := Try.checked) own started (by kernel_rfl) Try.func4
    (ChangeSpec.witness6 (enc := enc) (C := Try.checked) false ⟨#[], #[.slice none 0 0], []⟩ 8 (by kernel_rfl) (by kernel_rfl) (by kernel_rfl) (by kernel_rfl)) ?_
  intro W base args ds gs before hval0 hW hcnd _
  have hval : ∀ (j : Nat) t v, Try.f4.params[j]? = some t → args[j]? = some v → Value.okWide Try.prog W .any base t v := hval0
  have hW' := hW
  obtain ⟨p, q, hA0, hV, rfl, hfz, hnd⟩ := hW
  have hA : DataW.TrodAll enc Try.prog W 0 (fun _ => true) true Try.f4.params.toList args.toList ds p := hA0
  rw [Try.params4] at hA hval
  obtain ⟨v0, vs0, d0, ds0, p0, q0, hargs, rfl, rfl, h0, r0⟩ := trodAll_cons hA
  obtain ⟨rfl, rfl, rfl⟩ := trodAll_nil r0
  obtain rfl : args = #[v0] := by cases args; simp_all
  obtain ⟨rfl, rfl⟩ := trodVars_none hV
  obtain ⟨x0, n0, c0, rfl⟩ := okWide_slice Try.underlying23 (hval 0 23 v0 rfl rfl)
  have k0 := h0
  have lt0 : ∀ x ∈ p0, x.block < W.heap.size := by obtain ⟨m, hm⟩ := k0; exact DataW.trod_lt m _ _ _ hm
  obtain ⟨L, G, hG⟩ : ∃ L G, GRow W x0 n0 c0 L G := by
    obtain ⟨fuel, hf⟩ := h0
    exact open_graph (by simpa [Value.cells] using hf)
  clear hA0 hval0
  refine (law4 W x0 n0 c0 L G hG).mono fun e W' ⟨he, bel⟩ => ?_
  subst he
  exact ⟨_, rfl, _, _, _, [], _, [], hW', trodAll_mk1 (shut_bool Try.underlying4 _),
    (trodAll_cons_mk (Below.trod laidOut (by kernel_rfl) (of_decide_eq_true (by kernel_rfl)) k0 bel lt0) trodAll_mk0), rfl, bel.frame _, fun h => by cases h⟩

theorem cycle_over : Rows.fnCycleIsNilExactlyWhenAcyclicElseAShortestCycleRow.holds Try.pinned (OpenSpec.ofChange Rows.fnCycleIsNilExactlyWhenAcyclicElseAShortestCycleSpec) :=
  OpenClaim.holds_of_wide 4 Try.f4 rfl rfl rfl rfl rfl rfl rfl ⟨rfl, rfl, rfl, rfl, rfl⟩ rfl rfl rfl rfl rfl (by kernel_rfl) Try.func4 (by kernel_rfl)
    (of_decide_eq_true (by kernel_rfl)) (by unfold Func.isWrapper; first | (rw [if_pos (by decide +kernel)]; kernel_rfl) | (rw [if_neg (by decide +kernel)]; exact ⟨rfl, rfl⟩))
    (fun os started H enc _ => cycle_lifted os started H enc)

/-- the statement -/
theorem fnCycleIsNilExactlyWhenAcyclicElseAShortestCycle_proved : Rows.FnCycleIsNilExactlyWhenAcyclicElseAShortestCycleSaid := cycle_over
end Go.Proofs.Qxb6600485a
