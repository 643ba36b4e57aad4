/-
  closedCycle: its contract.
-/
import Derived.Test.Qxb6600485aSimple
import Derived.Test.Qxb6600485aShelf
import Derived.Test.Qxb6600485aRelax
import Derived.Deep.AppendLies
namespace Go.Proofs.Qxb6600485a
open Go.RowKit
set_option linter.unusedVariables false

theorem ownsRow_setCells {base g cap n : Nat} {e : TypeId} {size : Nat} : ∀ (vs : List Value) (o : Nat) (w : World) (xs : List Value), w.ownsRow base e size (.slice (some ⟨g, 0, none⟩) n cap) n xs → ∃ xs', (w.setCells g o vs).ownsRow base e size (.slice (some ⟨g, 0, none⟩) n cap) n xs'
  | [], o, w, xs, h => ⟨xs, h⟩
  | v :: vs, o, w, xs, h => ownsRow_setCells vs (o + 1) _ _ (h.stored o v).1
theorem below_setCells' {B g : Nat} (hg : B ≤ g) : ∀ (vs : List Value) (o : Nat) {w0 w : World}, Below B w0 w → Below B w0 (w.setCells g o vs)
  | [], o, w0, w, h => h
  | v :: vs, o, w0, w, h => below_setCells' hg vs (o + 1) (h.setCell (by exact hg) v)
theorem size_setCells' {g : Nat} : ∀ (vs : List Value) (o : Nat) (w : World), (w.setCells g o vs).heap.size = w.heap.size
  | [], o, w => rfl
  | v :: vs, o, w => (size_setCells' vs (o + 1) _).trans (by simp)
theorem ownsRow_cap {w : World} {base g cap n : Nat} {e : TypeId} {size : Nat} {xs : List Value} (h : w.ownsRow base e size (.slice (some ⟨g, 0, none⟩) n cap) n xs) : n ≤ cap ∧ cap ≤ maxLen := by
  rcases h.2 with ⟨h', _⟩ | ⟨g', cap', cur, h', hb, hg, hnc, hcm, hcs, htake⟩
  · simp at h'
  · simp only [Value.slice.injEq, Option.some.injEq, Addr.mk.injEq, and_true, true_and] at h'
    obtain ⟨rfl, rfl⟩ := h'
    exact ⟨hnc, hcm⟩

/-- the graph as the program holds it -/
def GPtr (w : World) (pb po ib : Nat) (a : Option Addr) (n c : Nat) : Prop :=
  w.cell? ⟨pb, po, none⟩ = some (.slice (some ⟨ib, 0, none⟩) n n) ∧ w.cell? ⟨pb, po + 1, none⟩ = some (.slice a n c) ∧ ARow w ib n (fun i => .int .i64 (i : Nat))
theorem GPtr.later {w w' : World} {pb po ib : Nat} {a : Option Addr} {n c : Nat} (h : GPtr w pb po ib a n c) (hb : Below w.heap.size w w') (hn : 0 < n) : GPtr w' pb po ib a n c :=
  ⟨cell_later hb h.1, cell_later hb h.2.1, h.2.2.below hb (h.2.2.lt hn)⟩

def slen : Value → Nat
  | .slice _ n _ => n
  | _ => 0
def idl (v : Nat) (P : Nat → Nat) (k : Nat) : List Value := .int .i64 ((v : Nat) : Int) :: (List.range k).map fun i => .int .i64 ((P i : Nat) : Int)

set_option maxRecDepth 100000 in
set_option maxHeartbeats 2000000 in
theorem closed30 (w : World) (pb po ib fg : Nat) (a : Option Addr) (n c : Nat) (hp : GPtr w pb po ib a n c) (hn : n ≤ 4096) (fr : Nat → Int) (hf : IRow w fg n fr) (v K : Nat) (P : Nat → Nat) (hK : K ≤ 4096) (hv : v < n) (hP : ∀ i, i ≤ K → P i < n) (hPs : ∀ i, i < K → fr (P i) = P (i + 1)) (hPv : P K = v) (hPn : ∀ i, i < K → P i ≠ v) :
    Calls Try.prog 30 #[.pointer (some ⟨pb, po, none⟩), .slice (some ⟨fg, 0, none⟩) n n, .int .i64 ((P 0 : Nat) : Int), .int .i64 v] w fun e w' => ∃ cg cc, e = .returned (.slice (some ⟨cg, 0, none⟩) (K + 2) cc) ∧ (∀ i, i < K + 2 → w'.cell? ⟨cg, i, none⟩ = some (.int .i64 (((if i ≤ K then P (K - i) else v) : Nat) : Int))) ∧ Below w.heap.size w w' := by
  obtain ⟨p0, p1, pI⟩ := hp
  have HI : Hid (ARow w ib n (fun i => .int .i64 (i : Nat))) := pI
  have HF : Hid (IRow w fg n fr) := hf
  have HP : Hid (∀ i, i ≤ K → P i < n) := hP
  have HPs : Hid (∀ i, i < K → fr (P i) = P (i + 1)) := hPs
  have HPn : Hid (∀ i, i < K → P i ≠ v) := hPn
  have HPv : Hid (P K = v) := hPv
  have hib := pI.lt (by omega)
  have hfg := hf.lt (by omega)
  have i0 := (pI v hv).1
  have hvi : (v : Int) < n := by omega
  clear pI hf hP hPs hPn hPv p1
  obtain ⟨ti, hi, hz0, hz1, hz2⟩ := info_parts Try.info3
  go_enter Try.func30, Try.ntmps30
  go_wp2
  have hown := World.ownsRow_lit (base := w.heap.size) (e := 3) (size := 1) w #[.int .i64 ((v : Nat) : Int)] 1 (Nat.le_refl _) (by unfold maxLen; omega) (by simp)
  have hbel : Below w.heap.size w (w.alloc (.cells #[.int .i64 ((v : Nat) : Int)] 3)) := (Below.refl _ _).alloc (Nat.le_refl _) _
  go_loopw [9, 10] (fun s u wr => ∃ (k g cap : Nat), k ≤ K ∧ u = .int .i64 ((P k : Nat) : Int) ∧ s = .slice (some ⟨g, 0, none⟩) (k + 1) cap ∧ wr.ownsRow w.heap.size 3 1 (.slice (some ⟨g, 0, none⟩) (k + 1) cap) (k + 1) (idl v P k) ∧ Below w.heap.size w wr) (fun s _ _ => K + 1 - slen s)
  case atStart => exact ⟨0, w.heap.size, 1, Nat.zero_le _, rfl, rfl, hown, hbel⟩
  case round =>
    clear hown hbel
    obtain ⟨k, g, cap, hk, rfl, rfl, hown, hbr⟩ := hrel
    have hPk := HP.out k hk
    have r0 : wr.cell? ⟨pb, po, none⟩ = some (.slice (some ⟨ib, 0, none⟩) n n) := cell_later hbr p0
    have r1 : wr.cell? ⟨ib, P k, none⟩ = some (.int .i64 ((P k : Nat) : Int)) := cell_later hbr (HI.out _ hPk).1
    have hcap := ownsRow_cap hown
    have hgb := hown.lt g rfl
    have hPi : ((P k : Nat) : Int) < n := by omega
    by_cases hkK : k < K
    · have r2 : wr.cell? ⟨fg, P k, none⟩ = some (.int .i64 ((P (k + 1) : Nat) : Int)) := by rw [← HPs.out k hkK]; exact cell_later hbr (HF.out _ hPk).1
      have hne : (((P k : Nat) : Int) == (v : Int)) = false := by have := HPn.out k hkK; simp; omega
      go_wp2_with (at_builtin; refine wpList_append_lies _ rfl _ _ 22 rfl w.heap.size 3 ti _ 1 8 Try.underlying22 hi hz0 hz1 hz2 rfl (by omega) _ (k + 1) _ rfl (hown.alloc _) ⟨wr.heap.size, 0, none⟩ 1 1 [.int .i64 ((P k : Nat) : Int)] rfl rfl ?c1 ?c2 (by omega) ?c3 ?c4 ?c5 _ rfl ?_)
      case c1 => exact one_new _ _ _ _ (by simp)
      case c2 => intro u hu; simp at hu; subst hu; rfl
      case c3 => unfold maxLen; omega
      case c4 => omega
      case c5 => have := hbr.size; simp; omega
      intro g2 cap2 w2 hown2 hgrow hg2 hg2'
      have hb2 : Below w.heap.size w w2 := (hbr.alloc (by have := hbr.size; omega) _).grown hgrow (by have := hbr.size; simp; omega) (by simp [Value.ownBlock]; omega)
      have r1' : w2.cell? ⟨fg, P k, none⟩ = some (.int .i64 ((P (k + 1) : Nat) : Int)) := by rw [← HPs.out k hkK]; exact cell_later hb2 (HF.out _ hPk).1
      have hown3 : w2.ownsRow w.heap.size 3 1 (.slice (some ⟨g2, 0, none⟩) (k + 1 + 1) cap2) (k + 1 + 1) (idl v P (k + 1)) := by
        have he : idl v P (k + 1) = idl v P k ++ [.int .i64 ((P k : Nat) : Int)] := by simp [idl, List.range_succ]
        rw [he]; exact hown2
      clear hown hown2 hgrow hgb r0 r1 r2
      go_wp2
      go_roundw
      case rel => exact ⟨k + 1, g2, cap2, by omega, rfl, by go_num, hown3, hb2⟩
      case measure => simp [slen]; omega
    · obtain rfl : k = K := by omega
      have hPv := HPv.out
      have hne : (((P k : Nat) : Int) == (v : Int)) = true := by simp; omega
      have hcell : ∀ j, j < k + 1 → wr.cell? ⟨g, j, none⟩ = (idl v P k)[j]? := fun j hj => hown.cellAt j (by omega)
      have hrev : ∀ ad cp, (0 < k → ad = some ⟨g, 1, none⟩) → Calls Try.prog 31 #[.slice ad k cp] wr fun e w' => e = .returned (.tuple #[]) ∧ Below w.heap.size w w' ∧ (∃ xs, w'.ownsRow w.heap.size 3 1 (.slice (some ⟨g, 0, none⟩) (k + 1) cap) (k + 1) xs) ∧ ∀ j, j < k + 1 → w'.cell? ⟨g, j, none⟩ = some (.int .i64 ((P (k - j) : Nat) : Int)) := by
        intro ad cp had
        have h0 : wr.cell? ⟨g, 0, none⟩ = some (.int .i64 ((v : Nat) : Int)) := by rw [hcell 0 (by omega)]; rfl
        rcases Nat.eq_zero_or_pos k with rfl | hk0
        · refine (Try.slices_Reverse_int_empty ad cp wr).mono ?_
          rintro e w' ⟨rfl, rfl⟩
          refine ⟨rfl, hbr, ⟨_, hown⟩, fun j hj => ?_⟩
          obtain rfl : j = 0 := by omega
          rw [h0, Nat.sub_self, hPv]
        · obtain rfl := had hk0
          have hc : ∀ j, j < k → wr.cell? ⟨g, 1 + j, none⟩ = some (.int .i64 ((P j : Nat) : Int)) := fun j hj => by
            rw [hcell (1 + j) (by omega), Nat.add_comm]
            simp [idl, hj]
          refine (Try.slices_Reverse_int_cells g 1 k cp ((List.range k).map fun i => ((P i : Nat) : Int)) wr (by simp) (by omega) (fun j hj => ?_) (fun j hj => hown.frozenAt _)).mono ?_
          · simp at hj
            rw [hc j hj]
            simp [hj]
          rintro e w' ⟨rfl, q, rfl⟩
          have hown' : (wr.drewN q).ownsRow w.heap.size 3 1 (.slice (some ⟨g, 0, none⟩) (k + 1) cap) (k + 1) (idl v P k) := by
            have hk : wr.grownBy (wr.drewN q) none := ⟨rfl, rfl, rfl, Nat.le_refl _, fun _ _ _ => rfl⟩
            exact hown.kept hk (.inr (by simp [Value.ownBlock]))
          refine ⟨rfl, below_setCells' hgb.1 _ _ (below_drewN hbr q), ownsRow_setCells _ _ _ _ hown', fun j hj => ?_⟩
          by_cases hj0 : j = 0
          · subst hj0
            rw [World.cell?_setCells_out _ _ _ _ _ (fun _ _ => .inl (by simp))]
            simp only [World.cell?_drewN]
            rw [h0, Nat.sub_zero, hPv]
          · obtain ⟨i, rfl⟩ : ∃ i, j = 1 + i := ⟨j - 1, by omega⟩
            rw [World.cell?_setCells_in _ _ _ _ (fun j hj => by simp at hj; simp only [World.cell?_drewN]; rw [hc j hj]; rfl) i (by simp; omega)]
            simp
            rw [Nat.sub_sub]
      clear hcap
      by_cases hc1 : cap = 1
      · have HAD : Hid (∀ ad : Option Addr, 0 < k → ad = some ⟨g, 1, none⟩) := fun ad h => absurd h (by have := ownsRow_cap hown; omega)
        subst hc1
        go_wp2_with fail
        refine (hrev _ _ (HAD.out _)).mono ?_
        rintro e w2 ⟨rfl, hb2, ⟨xs, hown2⟩, hcell2⟩
        have r0' : w2.cell? ⟨pb, po, none⟩ = some (.slice (some ⟨ib, 0, none⟩) n n) := cell_later hb2 p0
        have r1' : w2.cell? ⟨ib, v, none⟩ = some (.int .i64 ((v : Nat) : Int)) := cell_later hb2 (HI.out _ hv).1
        have HC2 : Hid (∀ j, j < k + 1 → w2.cell? ⟨g, j, none⟩ = some (.int .i64 ((P (k - j) : Nat) : Int))) := hcell2
        have hgb2 := hown2.lt g rfl
        clear hrev hcell hcell2 hown r0 r1
        go_wp2_with (at_builtin; refine wpList_append_lies _ rfl _ _ 22 rfl w.heap.size 3 ti _ 1 8 Try.underlying22 hi hz0 hz1 hz2 rfl (by omega) _ (k + 1) _ rfl (hown2.alloc _) ⟨w2.heap.size, 0, none⟩ 1 1 [.int .i64 ((v : Nat) : Int)] rfl rfl ?c1 ?c2 (by omega) ?c3 ?c4 ?c5 _ rfl ?_)
        case c1 => exact one_new _ _ _ _ (by simp)
        case c2 => intro u hu; simp at hu; subst hu; rfl
        case c3 => unfold maxLen; omega
        case c4 => omega
        case c5 => have := hb2.size; simp; omega
        intro g2 cap2 w3 hown3 hgrow hg2 hg2'
        have hb3 : Below w.heap.size w w3 := (hb2.alloc (by have := hb2.size; omega) _).grown hgrow (by have := hb2.size; simp; omega) (by simp [Value.ownBlock]; omega)
        have hfin : ∀ i, i < k + 2 → w3.cell? ⟨g2, i, none⟩ = some (.int .i64 (((if i ≤ k then P (k - i) else v) : Nat) : Int)) := by
          intro i hi
          rw [hown3.cellAt i (by omega)]
          have hxl := hown2.1
          by_cases hik : i ≤ k
          · rw [if_pos hik, List.getElem?_append_left (by omega), ← hown2.cellAt i (by omega)]
            exact HC2.out i (by omega)
          · obtain rfl : i = k + 1 := by omega
            rw [if_neg hik, List.getElem?_append_right (by omega)]
            simp [hxl]
        clear hown3 hgrow hown2
        go_wp2
        go_ret
        exact ⟨g2, cap2, rfl, hfin, hb3⟩
      · have hcp := (ownsRow_cap hown).1
        go_wp2_with fail
        refine (hrev _ _ (fun _ => rfl)).mono ?_
        rintro e w2 ⟨rfl, hb2, ⟨xs, hown2⟩, hcell2⟩
        have r0' : w2.cell? ⟨pb, po, none⟩ = some (.slice (some ⟨ib, 0, none⟩) n n) := cell_later hb2 p0
        have r1' : w2.cell? ⟨ib, v, none⟩ = some (.int .i64 ((v : Nat) : Int)) := cell_later hb2 (HI.out _ hv).1
        have HC2 : Hid (∀ j, j < k + 1 → w2.cell? ⟨g, j, none⟩ = some (.int .i64 ((P (k - j) : Nat) : Int))) := hcell2
        have hgb2 := hown2.lt g rfl
        clear hrev hcell hcell2 hown r0 r1
        go_wp2_with (at_builtin; refine wpList_append_lies _ rfl _ _ 22 rfl w.heap.size 3 ti _ 1 8 Try.underlying22 hi hz0 hz1 hz2 rfl (by omega) _ (k + 1) _ rfl (hown2.alloc _) ⟨w2.heap.size, 0, none⟩ 1 1 [.int .i64 ((v : Nat) : Int)] rfl rfl ?c1 ?c2 (by omega) ?c3 ?c4 ?c5 _ rfl ?_)
        case c1 => exact one_new _ _ _ _ (by simp)
        case c2 => intro u hu; simp at hu; subst hu; rfl
        case c3 => unfold maxLen; omega
        case c4 => omega
        case c5 => have := hb2.size; simp; omega
        intro g2 cap2 w3 hown3 hgrow hg2 hg2'
        have hb3 : Below w.heap.size w w3 := (hb2.alloc (by have := hb2.size; omega) _).grown hgrow (by have := hb2.size; simp; omega) (by simp [Value.ownBlock]; omega)
        have hfin : ∀ i, i < k + 2 → w3.cell? ⟨g2, i, none⟩ = some (.int .i64 (((if i ≤ k then P (k - i) else v) : Nat) : Int)) := by
          intro i hi
          rw [hown3.cellAt i (by omega)]
          have hxl := hown2.1
          by_cases hik : i ≤ k
          · rw [if_pos hik, List.getElem?_append_left (by omega), ← hown2.cellAt i (by omega)]
            exact HC2.out i (by omega)
          · obtain rfl : i = k + 1 := by omega
            rw [if_neg hik, List.getElem?_append_right (by omega)]
            simp [hxl]
        clear hown3 hgrow hown2
        go_wp2
        go_ret
        exact ⟨g2, cap2, rfl, hfin, hb3⟩
end Go.Proofs.Qxb6600485a
