/-
  Relaxation with unit weights, plainly.
-/
import Derived.Test.Qxb6600485aKahnPlain
namespace Go.Proofs.Qxb6600485a
set_option linter.unusedVariables false

/-- how many of the first k have a distance -/
def vis (d : Nat → Int) : Nat → Nat
  | 0 => 0
  | k + 1 => vis d k + if 0 ≤ d k then 1 else 0
theorem vis_le (d : Nat → Int) : ∀ k, vis d k ≤ k
  | 0 => Nat.le_refl _
  | k + 1 => by have := vis_le d k; simp only [vis]; split <;> omega
theorem vis_out (d : Nat → Int) (w : Nat) (x : Int) : ∀ k, k ≤ w → vis (upd d w x) k = vis d k
  | 0, _ => rfl
  | k + 1, h => by
    simp only [vis]
    rw [vis_out d w x k (by omega), upd_other _ _ _ _ (by omega)]
theorem vis_new (d : Nat → Int) (w : Nat) (x : Int) (hd : d w < 0) (hx : 0 ≤ x) : ∀ k, w < k → vis (upd d w x) k = vis d k + 1
  | 0, h => by omega
  | k + 1, h => by
    simp only [vis]
    by_cases e : k = w
    · subst e
      rw [vis_out d k x k (Nat.le_refl _), upd_same, if_pos hx, if_neg (by omega)]
    · rw [vis_new d w x hd hx k (by omega), upd_other _ _ _ _ e]
      omega
theorem vis_old (d : Nat → Int) (w : Nat) (x : Int) (hd : 0 ≤ d w) (hx : 0 ≤ x) : ∀ k, w < k → vis (upd d w x) k = vis d k
  | 0, h => by omega
  | k + 1, h => by
    simp only [vis]
    by_cases e : k = w
    · subst e
      rw [vis_out d k x k (Nat.le_refl _), upd_same, if_pos hx, if_pos hd]
    · rw [vis_old d w x hd hx k (by omega), upd_other _ _ _ _ e]

/-- what the distances are at every moment -/
def BI (n : Nat) (L : Nat → Nat) (E : Nat → Nat → Nat) (v : Nat) (d : Nat → Int) : Prop :=
  d v = 0 ∧ (∀ x, x < n → -1 ≤ d x) ∧ (∀ x, x < n → 0 ≤ d x → Wk (Ed n L E) (d x).toNat v x) ∧ ∀ x, x < n → 0 ≤ d x → d x < (vis d n : Nat)

theorem BI.bound {n : Nat} {L : Nat → Nat} {E : Nat → Nat → Nat} {v : Nat} {d : Nat → Int} (h : BI n L E v d) {x : Nat} (hx : x < n) : -1 ≤ d x ∧ d x < n := by
  refine ⟨h.2.1 x hx, ?_⟩
  by_cases h0 : 0 ≤ d x
  · have h1 := h.2.2.2 x hx h0
    have h2 := vis_le d n
    omega
  · omega

/-- one relaxation -/
theorem BI.relax {n : Nat} {L : Nat → Nat} {E : Nat → Nat → Nat} {v : Nat} {d : Nat → Int} (h : BI n L E v d) {u j : Nat} (hu : u < n) (hj : j < L u) (hw : E u j < n) (hv : E u j ≠ v) (hdu : 0 ≤ d u) (hlt : d (E u j) < 0 ∨ d u + 1 < d (E u j)) :
    BI n L E v (upd d (E u j) (d u + 1)) := by
  refine ⟨by rw [upd_other _ _ _ _ (Ne.symm hv)]; exact h.1, fun x hx => ?_, fun x hx h0 => ?_, fun x hx h0 => ?_⟩
  · by_cases e : x = E u j
    · subst e; rw [upd_same]; omega
    · rw [upd_other _ _ _ _ e]; exact h.2.1 x hx
  · by_cases e : x = E u j
    · subst e
      rw [upd_same, show (d u + 1).toNat = (d u).toNat + 1 by omega]
      exact ⟨u, h.2.2.1 u hu hdu, hu, j, hj, rfl⟩
    · rw [upd_other _ _ _ _ e] at h0 ⊢
      exact h.2.2.1 x hx h0
  · have hub := h.2.2.2 u hu hdu
    rcases Int.lt_or_le (d (E u j)) 0 with hneg | hpos
    · rw [vis_new d _ _ hneg (by omega) n hw]
      by_cases e : x = E u j
      · subst e; rw [upd_same]; omega
      · rw [upd_other _ _ _ _ e] at h0 ⊢
        have := h.2.2.2 x hx h0
        omega
    · rw [vis_old d _ _ hpos (by omega) n hw]
      have hlt' : d u + 1 < d (E u j) := by rcases hlt with h1 | h1 <;> omega
      by_cases e : x = E u j
      · subst e
        rw [upd_same]
        have := h.2.2.2 _ hw hpos
        omega
      · rw [upd_other _ _ _ _ e] at h0 ⊢
        exact h.2.2.2 x hx h0

/-- d is not above d0 -/
def Und (n : Nat) (d0 d : Nat → Int) : Prop := ∀ x, x < n → 0 ≤ d0 x → 0 ≤ d x ∧ d x ≤ d0 x
theorem Und.refl (n : Nat) (d : Nat → Int) : Und n d d := fun x _ h => ⟨h, Int.le_refl _⟩
theorem Und.relax {n : Nat} {d0 d : Nat → Int} (h : Und n d0 d) {w : Nat} {x : Int} (hx : 0 ≤ x) (hlt : d w < 0 ∨ x < d w) : Und n d0 (upd d w x) := by
  intro y hy h0
  have := h y hy h0
  by_cases e : y = w
  · subst e; rw [upd_same]; omega
  · rw [upd_other _ _ _ _ e]; exact this

/-- the targets of u's first j edges are near -/
def Near (L : Nat → Nat) (E : Nat → Nat → Nat) (v u j : Nat) (b : Int) (d : Nat → Int) : Prop := ∀ i, i < j → E u i ≠ v → 0 ≤ d (E u i) ∧ d (E u i) ≤ b + 1
theorem Near.und {n : Nat} {L : Nat → Nat} {E : Nat → Nat → Nat} {v u j : Nat} {b : Int} {d d' : Nat → Int} (h : Near L E v u j b d) (hd : Und n d d') (hE : ∀ i, i < j → E u i < n) : Near L E v u j b d' := fun i hi hne => by
  have h1 := h i hi hne
  have h2 := hd _ (hE i hi) h1.1
  omega
theorem und_upd {n : Nat} {d : Nat → Int} {w : Nat} {x : Int} (hx : 0 ≤ x) (hlt : d w < 0 ∨ x < d w) : Und n d (upd d w x) := (Und.refl n d).relax hx hlt

/-- every node that a walk of at most r steps reaches is near -/
def LV (n : Nat) (L : Nat → Nat) (E : Nat → Nat → Nat) (v r : Nat) (d : Nat → Int) : Prop := ∀ k, k ≤ r → ∀ x, x < n → Wk (Ed n L E) k v x → 0 ≤ d x ∧ d x ≤ k

theorem LV.step {n : Nat} {L : Nat → Nat} {E : Nat → Nat → Nat} {v r : Nat} {d0 d : Nat → Int} (h : LV n L E v r d0) (hb : BI n L E v d) (hv : v < n) (hn : ∀ x, x < n → 0 ≤ d0 x → Near L E v x (L x) (d0 x) d) : LV n L E v (r + 1) d := by
  intro k hk x hx hw
  cases k with
  | zero => have : v = x := hw
            subst this; rw [hb.1]; exact ⟨Int.le_refl _, Int.le_refl _⟩
  | succ k =>
    obtain ⟨y, hy, hyn, j, hj, he⟩ := hw
    have h1 := h k (by omega) y hyn hy
    by_cases e : x = v
    · subst e; rw [hb.1]; omega
    · have h2 := hn y hyn h1.1 j hj (by rw [he]; exact e)
      rw [he] at h2
      omega
theorem LV.all {n : Nat} {L : Nat → Nat} {E : Nat → Nat → Nat} {v : Nat} {d : Nat → Int} (hb : BI n L E v d) (hv : v < n) (hn : ∀ x, x < n → 0 ≤ d x → Near L E v x (L x) (d x) d) : ∀ r, LV n L E v r d
  | 0 => fun k hk x hx hw => by
    have : k = 0 := by omega
    subst this
    have : v = x := hw
    subst this; rw [hb.1]; exact ⟨Int.le_refl _, Int.le_refl _⟩
  | r + 1 => (LV.all hb hv hn r).step hb hv hn

end Go.Proofs.Qxb6600485a
