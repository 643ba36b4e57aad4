/-
  What a *CB1Tiers that came in reads as, for the walks. Shared by the rows' last steps.
-/
import Derived.Test.Qxb6603944aTiers
import Derived.ProofKit
import Derived.ShutString
import Derived.ChangeOld
import Derived.OpenShut
import Derived.Below
import Derived.Deep.Fields23
import Derived.Deep.SlicePairs
namespace Go.Proofs.Qxb6603944a
open Go.ChangeShapes Go.WideShapes Go.ChangeAt Go.RowKit Go.Deep
open Go.ChangeMaps (open_string shut_string)
set_option linter.unusedVariables false

theorem own : ownKnob Try.prog.godebug = none := by kernel_rfl
theorem laidOut : laidOutB Try.prog = true := by kernel_rfl
theorem cells43 : Try.prog.cellsOf 43 = 2 := by kernel_rfl
theorem cells2 : Try.prog.cellsOf 2 = 1 := by kernel_rfl
theorem cells28 : Try.prog.cellsOf 28 = 2 := by kernel_rfl

/-- a slice of levels, in a cell -/
theorem open_levels {H : Type} {enc : TypeId × Value → H} {w : World} {base : Nat} {held : Bool} {fuel : Nat} {v : Value} {x : DataW H × List MemPlace}
    (h : DataW.trod enc Try.prog w base (fun _ => true) held fuel 26 [v] = some x) :
    ∃ a n c T A, v = .slice a n c ∧ n ≤ maxLen ∧ PairRow w a n c T A := by
  rcases open_slice_pairs Try.underlying26 Try.underlying43 cells43 rfl rfl cells2 cells2 h with ⟨hcs, _⟩ | ⟨a, len, cap, m, n, V0, V1, D0, D1, P0, P1, hcs, _, hl, hm, hmm, _, hx⟩
  · simp at hcs
    exact ⟨none, 0, 0, fun _ => 0, fun _ => 0, hcs, Nat.zero_le _, fun _ => ⟨rfl, rfl⟩, fun h => absurd h (by omega)⟩
  · simp at hcs
    have hlm : len ≤ m := by rw [hmm]; simp; exact hl
    have each : ∀ i, i < len → ∃ q : Int × Int, V0 i = .int .i64 q.1 ∧ V1 i = .int .i64 q.2 := by
      intro i hi
      obtain ⟨_, _, t0, t1⟩ := hx i (by omega)
      obtain ⟨x0, e0, _, _⟩ := DataW.trod_int Try.underlying2 t0
      obtain ⟨x1, e1, _, _⟩ := DataW.trod_int Try.underlying2 t1
      exact ⟨(x0, x1), by simpa using e0, by simpa using e1⟩
    obtain ⟨q, hq⟩ := choose_lt each
    refine ⟨some a, len, cap, fun i => (q i).1, fun i => (q i).2, hcs, by omega, by simp, fun hn => ?_⟩
    obtain ⟨b, off, spot⟩ := a
    have hspot : spot = none := by
      have := (hx 0 (by omega)).1
      simpa [Addr.add] using World.cell?_spot this
    subst hspot
    refine ⟨b, off, rfl, fun i hi => ?_⟩
    have h0 := (hx i (by omega)).1
    have h1 := (hx i (by omega)).2.1
    rw [add_plain] at h0 h1
    rw [(hq i hi).1] at h0
    rw [(hq i hi).2] at h1
    exact ⟨h0, by rw [Nat.add_assoc]; exact h1⟩

/-- a *CB1Tiers, in a cell -/
theorem open_tiers {H : Type} {enc : TypeId × Value → H} {w : World} {base : Nat} {held : Bool} {fuel : Nat} {v : Value} {x : DataW H × List MemPlace}
    (h : DataW.trod enc Try.prog w base (fun _ => true) held fuel 22 [v] = some x) :
    v = .pointer none ∨ ∃ b o dim n T A, v = .pointer (some ⟨b, o, none⟩) ∧ dim.size ≤ maxLen ∧ n ≤ maxLen ∧ TiersIn w b o dim n T A := by
  rcases open_ptr_fields2 Try.underlying22 Try.underlying28 (by kernel_rfl) cells28 h with ⟨hcs, _⟩ | ⟨b, o, m, v0, v1, y0, y1, hcs, _, _, c0, c1, t0, t1⟩
  · exact .inl (by simpa using hcs)
  · obtain ⟨dim, e0, _, hd⟩ := DataW.trod_string Try.underlying9 t0
    obtain ⟨a, n, c, T, A, e1, hn, hr⟩ := open_levels t1
    obtain rfl : v0 = .string dim := by simpa using e0
    subst e1
    exact .inr ⟨b, o, dim, n, T, A, by simpa using hcs, hd, hn, a, c, c0, c1, hr⟩

end Go.Proofs.Qxb6603944a
