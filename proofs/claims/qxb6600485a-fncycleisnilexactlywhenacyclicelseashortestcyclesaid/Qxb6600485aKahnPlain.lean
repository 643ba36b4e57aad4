/-
  Kahn's algorithm, plainly.
-/
import Derived.Test.Qxb6600485aGraph
namespace Go.Proofs.Qxb6600485a
set_option linter.unusedVariables false

/-- an edge of the graph of n nodes -/
def Ed (n : Nat) (L : Nat → Nat) (E : Nat → Nat → Nat) (u w : Nat) : Prop := u < n ∧ ∃ j, j < L u ∧ E u j = w

/-- how many of u's first k edges lead to w -/
def ec (E : Nat → Nat → Nat) (u w : Nat) : Nat → Nat
  | 0 => 0
  | k + 1 => ec E u w k + if E u k = w then 1 else 0
theorem ec_le (E : Nat → Nat → Nat) (u w : Nat) : ∀ k, ec E u w k ≤ k
  | 0 => Nat.le_refl _
  | k + 1 => by have := ec_le E u w k; simp only [ec]; split <;> omega
theorem ec_mono (E : Nat → Nat → Nat) (u w : Nat) {i k : Nat} (h : i ≤ k) : ec E u w i ≤ ec E u w k := by
  induction k with
  | zero => have : i = 0 := by omega
            subst this; exact Nat.le_refl _
  | succ k ih =>
    by_cases e : i = k + 1
    · subst e; exact Nat.le_refl _
    · have := ih (by omega); simp only [ec]; omega
theorem ec_pos {E : Nat → Nat → Nat} {u w : Nat} : ∀ {k}, 0 < ec E u w k → ∃ j, j < k ∧ E u j = w
  | 0, h => by simp [ec] at h
  | k + 1, h => by
    by_cases e : E u k = w
    · exact ⟨k, by omega, e⟩
    · simp only [ec, if_neg e] at h
      obtain ⟨j, hj, he⟩ := ec_pos (k := k) (by omega)
      exact ⟨j, by omega, he⟩
theorem ec_of {E : Nat → Nat → Nat} {u w k j : Nat} (hj : j < k) (he : E u j = w) : 0 < ec E u w k := by
  have h1 : ec E u w (j + 1) = ec E u w j + 1 := by simp only [ec, if_pos he]
  have := ec_mono E u w (show j + 1 ≤ k by omega)
  omega

/-- how many edges lead to w from nodes below k that S does not hold -/
def rem (L : Nat → Nat) (E : Nat → Nat → Nat) (S : List Nat) (w : Nat) : Nat → Nat
  | 0 => 0
  | k + 1 => rem L E S w k + if k ∈ S then 0 else ec E k w (L k)
theorem rem_le (L : Nat → Nat) (E : Nat → Nat → Nat) (S : List Nat) (w M : Nat) : ∀ k, (∀ i, i < k → L i ≤ M) → rem L E S w k ≤ k * M
  | 0, _ => by simp [rem]
  | k + 1, h => by
    have h1 := rem_le L E S w M k (fun i hi => h i (by omega))
    have h2 := ec_le E k w (L k)
    have h3 := h k (by omega)
    simp only [rem]
    rw [Nat.succ_mul]
    split <;> omega
theorem rem_nil_ext (L : Nat → Nat) (E : Nat → Nat → Nat) (w k : Nat) : rem L E [] w (k + 1) = rem L E [] w k + ec E k w (L k) := by simp [rem]
theorem rem_same (L : Nat → Nat) (E : Nat → Nat → Nat) (S : List Nat) (u w : Nat) : ∀ k, k ≤ u → rem L E (S ++ [u]) w k = rem L E S w k
  | 0, _ => rfl
  | k + 1, h => by
    simp only [rem]
    rw [rem_same L E S u w k (by omega)]
    have : k ≠ u := by omega
    simp [this]
theorem rem_take (L : Nat → Nat) (E : Nat → Nat → Nat) (S : List Nat) (u w : Nat) (hu : u ∉ S) : ∀ k, u < k → rem L E S w k = rem L E (S ++ [u]) w k + ec E u w (L u)
  | 0, h => by omega
  | k + 1, h => by
    simp only [rem]
    by_cases e : k = u
    · subst e
      rw [rem_same L E S k w k (Nat.le_refl _)]
      simp [hu]
    · rw [rem_take L E S u w hu k (by omega)]
      have : k ∈ S ++ [u] ↔ k ∈ S := by simp [e]
      by_cases hk : k ∈ S
      · simp [hk]
      · simp only [hk, this, if_neg, not_false_eq_true]
        omega
theorem rem_pos {L : Nat → Nat} {E : Nat → Nat → Nat} {S : List Nat} {w : Nat} : ∀ {k}, 0 < rem L E S w k → ∃ u, u < k ∧ u ∉ S ∧ ∃ j, j < L u ∧ E u j = w
  | 0, h => by simp [rem] at h
  | k + 1, h => by
    by_cases h1 : 0 < rem L E S w k
    · obtain ⟨u, hu, h2⟩ := rem_pos h1
      exact ⟨u, by omega, h2⟩
    · by_cases h2 : k ∈ S
      · simp only [rem, if_pos h2] at h; omega
      · simp only [rem, if_neg h2] at h
        obtain ⟨j, hj, he⟩ := ec_pos (E := E) (u := k) (w := w) (k := L k) (by omega)
        exact ⟨k, by omega, h2, j, hj, he⟩
theorem rem_of {L : Nat → Nat} {E : Nat → Nat → Nat} {S : List Nat} {w u j : Nat} (hS : u ∉ S) (hj : j < L u) (he : E u j = w) : ∀ {k}, u < k → 0 < rem L E S w k
  | 0, h => by omega
  | k + 1, h => by
    by_cases e : k = u
    · subst e
      have := ec_of (E := E) hj he
      simp only [rem, if_neg hS]
      omega
    · have := rem_of (k := k) hS hj he (by omega)
      simp only [rem]
      omega

theorem nodup_rev {l : List Nat} (h : l.reverse.Nodup) : l.Nodup := by
  have h1 := List.pairwise_reverse.1 h
  simpa [List.Nodup, ne_comm] using h1

/-- what Kahn's loops keep -/
def KI (n : Nat) (L : Nat → Nat) (E : Nat → Nat → Nat) (q S : List Nat) (ex D : Nat → Nat) : Prop :=
  Topo (fun a b => Ed n L E b a) q.reverse ∧ (∀ x ∈ q, x < n) ∧ (∀ x, x < n → (x ∈ q ↔ D x = 0)) ∧ ∀ x, x < n → D x = rem L E S x n + ex x

theorem KI.nodup {n : Nat} {L : Nat → Nat} {E : Nat → Nat → Nat} {q S : List Nat} {ex D : Nat → Nat} (h : KI n L E q S ex D) : q.Nodup := nodup_rev (topo_nodup h.1)
theorem KI.len {n : Nat} {L : Nat → Nat} {E : Nat → Nat → Nat} {q S : List Nat} {ex D : Nat → Nat} (h : KI n L E q S ex D) : q.length ≤ n := nodup_len n q h.nodup h.2.1

theorem take_snoc1 {α : Type} (l : List α) (j : Nat) (h : j < l.length) : l.take (j + 1) = l.take j ++ [l[j]] := by
  rw [List.take_succ_eq_append_getElem h]
theorem not_mem_take {l : List Nat} (hd : l.Nodup) {h : Nat} (hh : h < l.length) : l[h] ∉ l.take h := by
  intro hm
  have h2 : (l.take (h + 1)).Nodup := hd.sublist (List.take_sublist _ _)
  rw [take_snoc1 l h hh] at h2
  exact (List.nodup_append.1 h2).2.2 _ hm l[h] (by simp) rfl

theorem KI.open {n : Nat} {L : Nat → Nat} {E : Nat → Nat → Nat} {q : List Nat} {D : Nat → Nat} {h : Nat} (k : KI n L E q (q.take h) (fun _ => 0) D) (hh : h < q.length) :
    KI n L E q (q.take (h + 1)) (fun x => ec E q[h] x (L q[h]) - ec E q[h] x 0) D := by
  refine ⟨k.1, k.2.1, k.2.2.1, fun x hx => ?_⟩
  rw [k.2.2.2 x hx, take_snoc1 q h hh, rem_take L E (q.take h) q[h] x (not_mem_take k.nodup hh) n (k.2.1 _ (List.getElem_mem hh))]
  simp [ec]

theorem KI.close {n : Nat} {L : Nat → Nat} {E : Nat → Nat → Nat} {q S : List Nat} {D : Nat → Nat} {u : Nat} (k : KI n L E q S (fun x => ec E u x (L u) - ec E u x (L u)) D) : KI n L E q S (fun _ => 0) D :=
  ⟨k.1, k.2.1, k.2.2.1, fun x hx => by have := k.2.2.2 x hx; simp only at this ⊢; omega⟩

theorem KI.edge {n : Nat} {L : Nat → Nat} {E : Nat → Nat → Nat} {q S : List Nat} {D : Nat → Nat} {u j : Nat} (k : KI n L E q S (fun x => ec E u x (L u) - ec E u x j) D) (hj : j < L u) (hw : E u j < n) (huS : u ∈ S) (hS : ∀ x ∈ S, x ∈ q) (hun : u < n) :
    0 < D (E u j) ∧ E u j ∉ q ∧ (D (E u j) - 1 ≠ 0 → KI n L E q S (fun x => ec E u x (L u) - ec E u x (j + 1)) (upd D (E u j) (D (E u j) - 1))) ∧
    (D (E u j) - 1 = 0 → KI n L E (q ++ [E u j]) S (fun x => ec E u x (L u) - ec E u x (j + 1)) (upd D (E u j) (D (E u j) - 1))) := by
  have h1 : ec E u (E u j) (j + 1) = ec E u (E u j) j + 1 := by simp [ec]
  have h2 := ec_mono E u (E u j) (show j + 1 ≤ L u by omega)
  have h3 := k.2.2.2 _ hw
  have hpos : 0 < D (E u j) := by simp only at h3; omega
  have hnq : E u j ∉ q := fun h => by have := (k.2.2.1 _ hw).1 h; omega
  have hD : ∀ x, x < n → upd D (E u j) (D (E u j) - 1) x = rem L E S x n + (ec E u x (L u) - ec E u x (j + 1)) := by
    intro x hx
    by_cases e : x = E u j
    · subst e
      rw [upd_same]
      simp only at h3
      omega
    · rw [upd_other _ _ _ _ e, k.2.2.2 x hx]
      have : ec E u x (j + 1) = ec E u x j := by simp [ec, Ne.symm e]
      rw [this]
  refine ⟨hpos, hnq, fun h0 => ⟨k.1, k.2.1, fun x hx => ?_, hD⟩, fun h0 => ⟨?_, ?_, fun x hx => ?_, hD⟩⟩
  · by_cases e : x = E u j
    · subst e
      rw [upd_same]
      constructor
      · intro h; exact absurd h hnq
      · intro h; exact absurd h h0
    · rw [upd_other _ _ _ _ e]; exact k.2.2.1 x hx
  · rw [List.reverse_append]
    show Topo _ (E u j :: q.reverse)
    refine ⟨fun v hv => ?_, by simpa using hnq, k.1⟩
    obtain ⟨hvn, i, hi, he⟩ := hv
    rw [List.mem_reverse]
    refine Classical.byContradiction fun hvq => ?_
    have hvS : v ∉ S := fun h => hvq (hS v h)
    have h4 := rem_of (L := L) (E := E) (S := S) (w := E u j) hvS hi he hvn
    have h5 := hD _ hw
    rw [upd_same] at h5
    omega
  · intro x hx
    rcases List.mem_append.1 hx with h | h
    · exact k.2.1 x h
    · simp at h; omega
  · by_cases e : x = E u j
    · subst e
      rw [upd_same]
      simp [h0]
    · rw [upd_other _ _ _ _ e]
      have := k.2.2.1 x hx
      simp [e, this]

/-- the answer -/
theorem KI.done {n : Nat} {L : Nat → Nat} {E : Nat → Nat → Nat} {q : List Nat} {D : Nat → Nat} (k : KI n L E q q (fun _ => 0) D) (hE : ∀ i, i < n → ∀ j, j < L i → E i j < n) :
    ((∃ l, Topo (Ed n L E) l ∧ ∀ w, w < n → w ∈ l) → q.length = n) ∧ ((∃ v m, v < n ∧ Wk (Ed n L E) (m + 1) v v) → q.length ≠ n) := by
  refine ⟨fun ⟨l, hl, hf⟩ => ?_, fun ⟨v, m, hv, hw⟩ hq => ?_⟩
  · have h1 := kahn_full (q := q) hl hf (fun u w ⟨hu, j, hj, he⟩ => ⟨hu, by rw [← he]; exact hE u hu j hj⟩) (fun w hw hn => by
      have h2 : D w ≠ 0 := fun h => hn ((k.2.2.1 w hw).2 h)
      have h3 := k.2.2.2 w hw
      obtain ⟨u, hu, hq, hj⟩ := rem_pos (L := L) (E := E) (S := q) (w := w) (k := n) (by simp only at h3; omega)
      exact ⟨u, hq, hu, hj⟩)
    have h4 := sub_len n q h1
    have h5 := k.len
    omega
  · have hmem := full_of_len k.nodup k.2.1 hq v hv
    exact topo_acyclic k.1 (List.mem_reverse.2 hmem) hw.flip

end Go.Proofs.Qxb6600485a
