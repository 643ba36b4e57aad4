/-
  Breadth-first search, plainly.
-/
import Derived.Test.Qxb6600485aSimple
namespace Go.Proofs.Qxb6600485a
set_option linter.unusedVariables false

/-- what the search keeps: Q all that was queued, h of them done, fr the parents, d the distances -/
def BF (n : Nat) (L : Nat → Nat) (E : Nat → Nat → Nat) (v : Nat) (Q : List Nat) (h : Nat) (fr : Nat → Int) (d : Nat → Nat) : Prop :=
  Q.Nodup ∧ (∀ x ∈ Q, x < n) ∧ (v ∈ Q ∧ d v = 0) ∧ (∀ x ∈ Q, x ≠ v → ∃ p ∈ Q, fr x = p ∧ Ed n L E p x ∧ d x = d p + 1) ∧ (∀ x, x < n → x ∉ Q → fr x = -1) ∧ Q.Pairwise (fun a b => d a ≤ d b) ∧ ∀ p ∈ Q.take h, ∀ x, Ed n L E p x → x ≠ v ∧ x ∈ Q ∧ d x ≤ d p + 1
/-- none lies farther than one step behind the node in hand -/
def BB (Q : List Nat) (h : Nat) (d : Nat → Nat) : Prop := ∀ u, Q[h]? = some u → ∀ x ∈ Q, d x ≤ d u + 1
/-- the first j edges of u are done -/
def BE (E : Nat → Nat → Nat) (v : Nat) (Q : List Nat) (u j : Nat) (d : Nat → Nat) : Prop := ∀ i, i < j → E u i ≠ v ∧ E u i ∈ Q ∧ d (E u i) ≤ d u + 1

variable {n : Nat} {L : Nat → Nat} {E : Nat → Nat → Nat} {v : Nat} {Q : List Nat} {h : Nat} {fr : Nat → Int} {d : Nat → Nat}

theorem BF.start (hv : v < n) (hfr : ∀ x, x < n → fr x = -1) : BF n L E v [v] 0 fr (fun _ => 0) ∧ BB [v] 0 (fun _ => 0) :=
  ⟨⟨by simp, by simpa using hv, ⟨by simp, rfl⟩, fun x hx hne => absurd (List.mem_singleton.1 hx) hne, fun x hx _ => hfr x hx, by simp, by simp⟩, fun u _ x _ => by simp⟩

theorem BF.walk (b : BF n L E v Q h fr d) : ∀ k x, x ∈ Q → d x = k → Wk (Ed n L E) k v x := by
  obtain ⟨b1, b2, b3, b4, b5, b6, b7⟩ := b
  intro k
  induction k with
  | zero =>
    intro x hx hd
    by_cases e : x = v
    · exact e.symm
    · obtain ⟨p, _, _, _, h1⟩ := b4 x hx e; omega
  | succ k ih =>
    intro x hx hd
    have hne : x ≠ v := fun e => by subst e; omega
    obtain ⟨p, hp, _, he, h1⟩ := b4 x hx hne
    exact ⟨p, ih p hp (by omega), he⟩

theorem BF.done {u : Nat} (b : BF n L E v Q h fr d) (hu : Q[h]? = some u) {x : Nat} (hx : x ∈ Q) (hd : d x < d u) : x ∈ Q.take h := by
  obtain ⟨i, hi, rfl⟩ := List.mem_iff_getElem.1 hx
  rcases Nat.lt_or_ge i h with hlt | hge
  · exact List.mem_take_iff_getElem.2 ⟨i, by omega, rfl⟩
  · obtain ⟨hh, rfl⟩ := List.getElem?_eq_some_iff.1 hu
    rcases Nat.lt_or_eq_of_le hge with h1 | h1
    · have := List.pairwise_iff_getElem.1 b.2.2.2.2.2.1 h i hh hi h1
      omega
    · subst h1; omega

theorem BF.least {u : Nat} (b : BF n L E v Q h fr d) (hu : Q[h]? = some u) : ∀ i x, Wk (Ed n L E) i v x → i ≤ d u → x ∈ Q ∧ d x ≤ i ∧ (1 ≤ i → x ≠ v) := by
  intro i
  induction i with
  | zero =>
    intro x hw _
    obtain rfl : v = x := hw
    exact ⟨b.2.2.1.1, by rw [b.2.2.1.2]; exact Nat.le_refl _, fun h => absurd h (by omega)⟩
  | succ i ih =>
    rintro x ⟨y, hy, he⟩ hi
    obtain ⟨h1, h2, _⟩ := ih y hy (by omega)
    obtain ⟨h3, h4, h5⟩ := b.2.2.2.2.2.2 y (b.done hu h1 (by omega)) x he
    exact ⟨h4, by omega, fun _ => h3⟩

theorem BF.isMin {u : Nat} (b : BF n L E v Q h fr d) (hu : Q[h]? = some u) (he : Ed n L E u v) : IsMin (Ed n L E) v (d u + 1) := by
  have huQ : u ∈ Q := List.mem_of_getElem? hu
  refine ⟨by omega, ⟨u, b.walk _ u huQ rfl, he⟩, fun k hk hw => ?_⟩
  refine Classical.byContradiction fun hlt => ?_
  exact (b.least hu k v hw (by omega)).2.2 hk rfl

theorem BF.closed (b : BF n L E v Q h fr d) (hh : Q.length ≤ h) {m : Nat} (hw : Wk (Ed n L E) (m + 1) v v) : False := by
  have key : ∀ i x, Wk (Ed n L E) i v x → x ∈ Q ∧ (1 ≤ i → x ≠ v) := by
    intro i
    induction i with
    | zero =>
      intro x hw
      obtain rfl : v = x := hw
      exact ⟨b.2.2.1.1, fun h => absurd h (by omega)⟩
    | succ i ih =>
      rintro x ⟨y, hy, he⟩
      obtain ⟨h1, _⟩ := ih y hy
      obtain ⟨h3, h4, h5⟩ := b.2.2.2.2.2.2 y (by rw [List.take_of_length_le hh]; exact h1) x he
      exact ⟨h4, fun _ => h3⟩
  exact (key _ _ hw).2 (by omega) rfl

/-- the way back -/
def pth (fr : Nat → Int) (u : Nat) : Nat → Nat
  | 0 => u
  | i + 1 => (fr (pth fr u i)).toNat

theorem BF.path {u : Nat} (b : BF n L E v Q h fr d) (hu : u ∈ Q) : ∀ i, i ≤ d u → pth fr u i ∈ Q ∧ d (pth fr u i) = d u - i := by
  intro i
  induction i with
  | zero => intro _; exact ⟨hu, rfl⟩
  | succ i ih =>
    intro hi
    obtain ⟨h1, h2⟩ := ih (by omega)
    have hne : pth fr u i ≠ v := fun e => by rw [e, b.2.2.1.2] at h2; omega
    obtain ⟨p, hp, h3, h4, h5⟩ := b.2.2.2.1 _ h1 hne
    have : pth fr u (i + 1) = p := by simp only [pth, h3]; omega
    rw [this]
    exact ⟨hp, by omega⟩
theorem BF.step {u : Nat} (b : BF n L E v Q h fr d) (hu : u ∈ Q) {i : Nat} (hi : i < d u) : pth fr u i ≠ v ∧ fr (pth fr u i) = pth fr u (i + 1) ∧ Ed n L E (pth fr u (i + 1)) (pth fr u i) := by
  obtain ⟨h1, h2⟩ := b.path hu i (by omega)
  have hne : pth fr u i ≠ v := fun e => by rw [e, b.2.2.1.2] at h2; omega
  obtain ⟨p, hp, h3, h4, h5⟩ := b.2.2.2.1 _ h1 hne
  have : pth fr u (i + 1) = p := by simp only [pth, h3]; omega
  rw [this]
  exact ⟨hne, h3, h4⟩
theorem BF.last {u : Nat} (b : BF n L E v Q h fr d) (hu : u ∈ Q) : pth fr u (d u) = v := by
  obtain ⟨h1, h2⟩ := b.path hu (d u) (Nat.le_refl _)
  refine Classical.byContradiction fun hne => ?_
  obtain ⟨p, hp, h3, h4, h5⟩ := b.2.2.2.1 _ h1 hne
  omega

/-- the cycle as it is returned -/
def cyc (fr : Nat → Int) (u v K : Nat) (i : Nat) : Nat := if i ≤ K then pth fr u (K - i) else v
theorem BF.simple {u : Nat} (b : BF n L E v Q h fr d) (hu : u ∈ Q) (he : Ed n L E u v) : Simple n L E (d u + 1) (cyc fr u v (d u)) ∧ cyc fr u v (d u) 0 = v ∧ d u + 1 ≤ n := by
  have hd : ∀ i, i ≤ d u → cyc fr u v (d u) i ∈ Q ∧ d (cyc fr u v (d u) i) = i := by
    intro i hi
    obtain ⟨h1, h2⟩ := b.path hu (d u - i) (by omega)
    simp only [cyc, if_pos hi]
    exact ⟨h1, by omega⟩
  have hvn : v < n := b.2.1 v b.2.2.1.1
  have hlen : d u + 1 ≤ n := by
    have h1 : ((List.range (d u + 1)).map (cyc fr u v (d u))).Nodup := by
      rw [List.Nodup, List.pairwise_map]
      refine List.Pairwise.imp_of_mem (fun {a c} ha hc hne e => ?_) (List.nodup_range (n := d u + 1))
      have h1 := (hd a (by have := List.mem_range.1 ha; omega)).2
      have h2 := (hd c (by have := List.mem_range.1 hc; omega)).2
      rw [e] at h1
      exact hne (by omega)
    have := nodup_len n _ h1 (fun x hx => by
      obtain ⟨i, hi, rfl⟩ := List.mem_map.1 hx
      exact b.2.1 _ (hd i (by have := List.mem_range.1 hi; omega)).1)
    simpa using this
  have h0 : cyc fr u v (d u) 0 = v := by simp only [cyc, if_pos (Nat.zero_le _)]; exact b.last hu
  have hM : cyc fr u v (d u) (d u + 1) = v := by simp only [cyc]; rw [if_neg (by omega)]
  refine ⟨⟨by omega, hlen, fun i hi => ?_, by rw [h0, hM], fun i hi => ?_, fun i j hij hj e => ?_⟩, h0, hlen⟩
  · by_cases hi' : i ≤ d u
    · exact b.2.1 _ (hd i hi').1
    · obtain rfl : i = d u + 1 := by omega
      rw [hM]; exact hvn
  · by_cases hi' : i = d u
    · subst hi'
      rw [hM]
      simp only [cyc, if_pos (Nat.le_refl _), Nat.sub_self]
      exact he
    · have h1 := (b.step hu (i := d u - (i + 1)) (by omega)).2.2
      simp only [cyc]
      rw [if_pos (by omega), if_pos (by omega)]
      rw [show d u - (i + 1) + 1 = d u - i by omega] at h1
      exact h1
  · have h1 := (hd i (by omega)).2
    have h2 := (hd j (by omega)).2
    rw [e] at h1
    omega

theorem BF.known (b : BF n L E v Q h fr d) {t : Nat} (ht : t < n) (hne : t ≠ v) : (fr t < 0 → t ∉ Q) ∧ (¬ fr t < 0 → t ∈ Q) := by
  refine ⟨fun h0 hm => ?_, fun h0 => Classical.byContradiction fun hm => ?_⟩
  · obtain ⟨p, _, h1, _⟩ := b.2.2.2.1 t hm hne
    omega
  · have := b.2.2.2.2.1 t ht hm
    omega

theorem BF.push {u t : Nat} (b : BF n L E v Q h fr d) (bb : BB Q h d) (hu : Q[h]? = some u) (ht : t < n) (hne : t ≠ v) (hm : t ∉ Q) (he : Ed n L E u t) :
    BF n L E v (Q ++ [t]) h (upd fr t u) (upd d t (d u + 1)) ∧ BB (Q ++ [t]) h (upd d t (d u + 1)) := by
  obtain ⟨b1, b2, ⟨b3, b3'⟩, b4, b5, b6, b7⟩ := b
  have huQ : u ∈ Q := List.mem_of_getElem? hu
  have hh : h < Q.length := (List.getElem?_eq_some_iff.1 hu).1
  have hdQ : ∀ x ∈ Q, upd d t (d u + 1) x = d x := fun x hx => upd_other _ _ _ _ (fun e => by subst e; exact hm hx)
  have hfQ : ∀ x ∈ Q, upd fr t (u : Int) x = fr x := fun x hx => upd_other _ _ _ _ (fun e => by subst e; exact hm hx)
  have hut : u ≠ t := fun e => by subst e; exact hm huQ
  refine ⟨⟨?_, ?_, ⟨?_, ?_⟩, ?_, ?_, ?_, ?_⟩, ?_⟩
  · exact List.nodup_append.2 ⟨b1, by simp, fun a ha c hc e => by simp at hc; subst hc; subst e; exact hm ha⟩
  · intro x hx
    rcases List.mem_append.1 hx with h1 | h1
    · exact b2 x h1
    · simp at h1; omega
  · simp [b3]
  · rw [hdQ v b3]; exact b3'
  · intro x hx hxv
    rcases List.mem_append.1 hx with h1 | h1
    · obtain ⟨p, hp, h2, h3, h4⟩ := b4 x h1 hxv
      exact ⟨p, by simp [hp], by rw [hfQ x h1]; exact h2, h3, by rw [hdQ x h1, hdQ p hp]; exact h4⟩
    · simp at h1; subst h1
      exact ⟨u, by simp [huQ], by rw [upd_same], he, by rw [upd_same, hdQ u huQ]⟩
  · intro x hx hxQ
    simp at hxQ
    rw [upd_other _ _ _ _ hxQ.2]
    exact b5 x hx hxQ.1
  · rw [List.pairwise_append]
    refine ⟨b6.imp_of_mem (fun {a c} ha hc hac => by rw [hdQ a ha, hdQ c hc]; exact hac), by simp, fun a ha c hc => ?_⟩
    simp at hc; subst hc
    rw [hdQ a ha, upd_same]
    exact bb u hu a ha
  · rw [List.take_append_of_le_length (by omega)]
    intro p hp x hx
    have hpQ := List.mem_of_mem_take hp
    obtain ⟨h1, h2, h3⟩ := b7 p hp x hx
    exact ⟨h1, by simp [h2], by rw [hdQ x h2, hdQ p hpQ]; exact h3⟩
  · intro u' hu' x hx
    rw [List.getElem?_append_left hh, hu] at hu'
    obtain rfl := Option.some.inj hu'
    rw [hdQ u huQ]
    rcases List.mem_append.1 hx with h1 | h1
    · rw [hdQ x h1]; exact bb u hu x h1
    · simp at h1; subst h1; rw [upd_same]; exact Nat.le_refl _

theorem BE.push {u t j : Nat} (be : BE E v Q u j d) (hm : t ∉ Q) (huQ : u ∈ Q) (hne : t ≠ v) (hj : E u j = t) : BE E v (Q ++ [t]) u (j + 1) (upd d t (d u + 1)) := by
  have hdQ : ∀ x ∈ Q, upd d t (d u + 1) x = d x := fun x hx => upd_other _ _ _ _ (fun e => by subst e; exact hm hx)
  intro i hi
  rw [hdQ u huQ]
  by_cases e : i = j
  · subst e; rw [hj, upd_same]; exact ⟨hne, by simp, Nat.le_refl _⟩
  · obtain ⟨h1, h2, h3⟩ := be i (by omega)
    exact ⟨h1, by simp [h2], by rw [hdQ _ h2]; exact h3⟩
theorem BE.pass {u t j : Nat} (be : BE E v Q u j d) (bb : BB Q h d) (hu : Q[h]? = some u) (hm : t ∈ Q) (hne : t ≠ v) (hj : E u j = t) : BE E v Q u (j + 1) d := by
  intro i hi
  by_cases e : i = j
  · subst e; rw [hj]; exact ⟨hne, hm, bb u hu t hm⟩
  · exact be i (by omega)

theorem BF.next {u : Nat} (b : BF n L E v Q h fr d) (bb : BB Q h d) (hu : Q[h]? = some u) (be : BE E v Q u (L u) d) : BF n L E v Q (h + 1) fr d ∧ BB Q (h + 1) d := by
  obtain ⟨b1, b2, b3, b4, b5, b6, b7⟩ := b
  obtain ⟨hh, hu'⟩ := List.getElem?_eq_some_iff.1 hu
  refine ⟨⟨b1, b2, b3, b4, b5, b6, fun p hp x hx => ?_⟩, fun u2 hu2 x hx => ?_⟩
  · rw [take_snoc1 Q h hh] at hp
    rcases List.mem_append.1 hp with h1 | h1
    · exact b7 p h1 x hx
    · simp at h1; rw [hu'] at h1; subst h1
      obtain ⟨_, j, hj, rfl⟩ := hx
      exact be j hj
  · obtain ⟨hh2, rfl⟩ := List.getElem?_eq_some_iff.1 hu2
    have h1 := List.pairwise_iff_getElem.1 b6 h (h + 1) hh hh2 (by omega)
    have h2 := bb u hu x hx
    rw [← hu'] at h2
    omega
end Go.Proofs.Qxb6600485a
