/-
  What a []string and a []int64 that came in read as, for the walks.
-/
import Derived.Test.Qxb6603944aChain
import Derived.Test.Qxb6603944aOpen
import Derived.Deep.Strs
namespace Go.Proofs.Qxb6603944a
open Go.ChangeShapes Go.WideShapes Go.ChangeAt Go.RowKit Go.Deep
set_option linter.unusedVariables false

theorem cells9 : Try.prog.cellsOf 9 = 1 := by kernel_rfl

theorem open_strRow {H : Type} {enc : TypeId × Value → H} {w : World} {base : Nat} {held : Bool} {fuel : Nat} {a : Option Addr} {n c : Nat} {x : DataW H × List MemPlace}
    (h : DataW.trod enc Try.prog w base (fun _ => true) held fuel 55 [.slice a n c] = some x) : n ≤ maxLen ∧ ∃ S, StrRow w a n c S := by
  rcases open_strs Try.underlying55 Try.underlying9 cells9 h with ⟨hcs, _⟩ | ⟨ad, len, cap, m, Sx, hcs, _, hl, hm, hmm, _, hx⟩
  · simp at hcs
    obtain ⟨rfl, rfl, rfl⟩ := hcs
    exact ⟨Nat.zero_le _, fun _ => ⟨#[]⟩, fun _ => ⟨rfl, rfl⟩, fun h => absurd h (by omega)⟩
  · simp at hcs
    obtain ⟨rfl, rfl, rfl⟩ := hcs
    simp only [if_true] at hmm
    refine ⟨by omega, Sx, by simp, fun hn => ?_⟩
    obtain ⟨b, off, spot⟩ := ad
    have hspot : spot = none := by
      have := (hx 0 (by omega)).1
      simpa [Addr.add] using World.cell?_spot this
    subst hspot
    refine ⟨b, off, rfl, fun i hi => ?_⟩
    have := (hx i (by omega)).1
    rwa [add_plain] at this

theorem open_intRow {H : Type} {enc : TypeId × Value → H} {w : World} {base : Nat} {held : Bool} {fuel : Nat} {a : Option Addr} {n c : Nat} {x : DataW H × List MemPlace}
    (h : DataW.trod enc Try.prog w base (fun _ => true) held fuel 56 [.slice a n c] = some x) : n ≤ maxLen ∧ ∃ Z, IntRow w a n c Z := by
  rcases open_ints Try.underlying56 Try.underlying2 cells2 h with ⟨hcs, _⟩ | ⟨ad, len, cap, zs, hcs, _, hl, hm, hz, _, hcell, _⟩
  · simp at hcs
    obtain ⟨rfl, rfl, rfl⟩ := hcs
    exact ⟨Nat.zero_le _, fun _ => 0, fun _ => ⟨rfl, rfl⟩, fun h => absurd h (by omega)⟩
  · simp at hcs
    obtain ⟨rfl, rfl, rfl⟩ := hcs
    simp only [if_true] at hz
    refine ⟨by omega, fun i => zs.getD i 0, by simp, fun hn => ?_⟩
    obtain ⟨b, off, spot⟩ := ad
    have hspot : spot = none := by
      have := hcell 0 (by omega)
      simpa [Addr.add] using World.cell?_spot this
    subst hspot
    refine ⟨b, off, rfl, fun i hi => ?_⟩
    have := hcell i (by omega)
    rwa [add_plain] at this

end Go.Proofs.Qxb6603944a
