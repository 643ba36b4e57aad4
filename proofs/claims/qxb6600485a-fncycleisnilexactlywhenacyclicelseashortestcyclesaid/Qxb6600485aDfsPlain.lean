/-
  Depth-first search, plainly.
-/
import Derived.Test.Qxb6600485aSimple
namespace Go.Proofs.Qxb6600485a
set_option linter.unusedVariables false

/-- the edges that each open node has followed lead to finished nodes, or to open ones above it -/
def FW (L : Nat → Nat) (E : Nat → Nat → Nat) (fin : List Nat) : List Nat → List (Nat × Nat) → Prop
  | _, [] => True
  | ab, (u, f) :: t => f ≤ L u ∧ (∀ j, j < f → E u j ∈ fin ∨ E u j ∈ ab) ∧ FW L E fin (u :: ab) t
theorem FW.mono {L : Nat → Nat} {E : Nat → Nat → Nat} {fin fin' : List Nat} : ∀ {s : List (Nat × Nat)} {ab ab' : List Nat}, FW L E fin ab s → (∀ x, x ∈ fin ∨ x ∈ ab → x ∈ fin' ∨ x ∈ ab') → FW L E fin' ab' s
  | [], _, _, _, _ => trivial
  | (u, f) :: t, ab, ab', ⟨h1, h2, h3⟩, h => ⟨h1, fun j hj => h _ (h2 j hj), h3.mono fun x hx => by
      rcases hx with hx | hx
      · rcases h x (.inl hx) with h4 | h4
        · exact .inl h4
        · exact .inr (List.mem_cons_of_mem _ h4)
      · rcases List.mem_cons.1 hx with rfl | hx
        · exact .inr (by simp)
        · rcases h x (.inr hx) with h4 | h4
          · exact .inl h4
          · exact .inr (List.mem_cons_of_mem _ h4)⟩

/-- what the search keeps: s the open nodes, the last first, each with the number of edges followed; fin the finished ones -/
def DI (n : Nat) (L : Nat → Nat) (E : Nat → Nat → Nat) (s : List (Nat × Nat)) (fin : List Nat) (st : Nat → Nat) : Prop :=
  Stk (Ed n L E) (s.map Prod.fst) ∧ (s.map Prod.fst).Nodup ∧ (∀ x ∈ s.map Prod.fst, x < n) ∧ Topo (Ed n L E) fin ∧ (∀ x ∈ fin, x < n) ∧
  (∀ x, x < n → (st x = 1 ↔ x ∈ s.map Prod.fst)) ∧ (∀ x, x < n → (st x = 2 ↔ x ∈ fin)) ∧ (∀ x, x < n → st x ≤ 2) ∧ FW L E fin [] s

variable {n : Nat} {L : Nat → Nat} {E : Nat → Nat → Nat} {s t : List (Nat × Nat)} {fin : List Nat} {st : Nat → Nat} {u f : Nat}

theorem DI.init (h : ∀ x, x < n → st x = 0) : DI n L E [] [] st :=
  ⟨trivial, List.nodup_nil, by simp, trivial, by simp, fun x hx => by simp [h x hx], fun x hx => by simp [h x hx], fun x hx => by rw [h x hx]; omega, trivial⟩

theorem DI.len (d : DI n L E s fin st) : s.length + fin.length ≤ n := by
  obtain ⟨d1, d2, d3, d4, d5, d6, d7, d8, d9⟩ := d
  have := nodup_len n (s.map Prod.fst ++ fin) (List.nodup_append.2 ⟨d2, topo_nodup d4, fun a ha b hb e => by
    subst e
    have h1 := (d6 a (d3 a ha)).2 ha
    have h2 := (d7 a (d3 a ha)).2 hb
    omega⟩) (fun x hx => by
      rcases List.mem_append.1 hx with h | h
      · exact d3 x h
      · exact d5 x h)
  simpa using this

theorem DI.start (d : DI n L E [] fin st) {x : Nat} (hx : x < n) (h0 : st x = 0) : DI n L E [(x, 0)] fin (upd st x 1) := by
  obtain ⟨d1, d2, d3, d4, d5, d6, d7, d8, d9⟩ := d
  refine ⟨trivial, by simp, by simpa using hx, d4, d5, fun y hy => ?_, fun y hy => ?_, fun y hy => ?_, ⟨Nat.zero_le _, fun j hj => absurd hj (by omega), trivial⟩⟩
  · by_cases e : y = x
    · subst e; simp [upd_same]
    · rw [upd_other _ _ _ _ e]
      have := d6 y hy
      simp at this
      simp [this, e]
  · by_cases e : y = x
    · subst e
      rw [upd_same]
      have := d7 y hy
      constructor
      · intro h; omega
      · intro h; have := this.2 h; omega
    · rw [upd_other _ _ _ _ e]; exact d7 y hy
  · by_cases e : y = x
    · subst e; rw [upd_same]; omega
    · rw [upd_other _ _ _ _ e]; exact d8 y hy

theorem DI.pop (d : DI n L E ((u, L u) :: t) fin st) : DI n L E t (u :: fin) (upd st u 2) := by
  obtain ⟨d1, d2, d3, d4, d5, d6, d7, d8, d9⟩ := d
  simp only [List.map_cons] at d1 d2 d3 d6
  have hun : u < n := d3 u (by simp)
  have hsu := (d6 u hun).2 (by simp)
  have hnf : u ∉ fin := fun h => by have := (d7 u hun).2 h; omega
  obtain ⟨hnt, hdt⟩ := List.nodup_cons.1 d2
  obtain ⟨f1, f2, f3⟩ := d9
  refine ⟨?_, hdt, fun x hx => d3 x (List.mem_cons_of_mem _ hx), ⟨?_, hnf, d4⟩, ?_, fun x hx => ?_, fun x hx => ?_, fun x hx => ?_, ?_⟩
  · cases t with
    | nil => exact trivial
    | cons p t => exact d1.2
  · rintro v ⟨_, j, hj, rfl⟩
    rcases f2 j hj with h | h
    · exact h
    · simp at h
  · intro x hx
    rcases List.mem_cons.1 hx with rfl | h
    · exact hun
    · exact d5 x h
  · by_cases e : x = u
    · subst e; rw [upd_same]; simp; simpa using hnt
    · rw [upd_other _ _ _ _ e, d6 x hx]; simp [e]
  · by_cases e : x = u
    · subst e; rw [upd_same]; simp
    · rw [upd_other _ _ _ _ e, d7 x hx]; simp [e]
  · by_cases e : x = u
    · subst e; rw [upd_same]; exact Nat.le_refl _
    · rw [upd_other _ _ _ _ e]; exact d8 x hx
  · refine f3.mono fun x hx => ?_
    rcases hx with h | h
    · exact .inl (List.mem_cons_of_mem _ h)
    · simp at h; subst h; exact .inl (by simp)

theorem DI.done (d : DI n L E ((u, f) :: t) fin st) (hf : f < L u) (hn : E u f < n) (h2 : st (E u f) = 2) : DI n L E ((u, f + 1) :: t) fin st := by
  obtain ⟨d1, d2, d3, d4, d5, d6, d7, d8, d9⟩ := d
  obtain ⟨f1, f2, f3⟩ := d9
  refine ⟨d1, d2, d3, d4, d5, d6, d7, d8, ⟨by omega, fun j hj => ?_, f3⟩⟩
  by_cases e : j = f
  · subst e; exact .inl ((d7 _ hn).1 h2)
  · exact f2 j (by omega)

theorem DI.push (d : DI n L E ((u, f) :: t) fin st) (hf : f < L u) (hn : E u f < n) (h0 : st (E u f) = 0) : DI n L E ((E u f, 0) :: (u, f + 1) :: t) fin (upd st (E u f) 1) := by
  obtain ⟨d1, d2, d3, d4, d5, d6, d7, d8, d9⟩ := d
  simp only [List.map_cons] at d1 d2 d3 d6
  have hun : u < n := d3 u (by simp)
  have hns : E u f ∉ u :: t.map Prod.fst := fun h => by have := (d6 _ hn).2 h; omega
  obtain ⟨f1, f2, f3⟩ := d9
  refine ⟨⟨⟨hun, f, hf, rfl⟩, d1⟩, List.nodup_cons.2 ⟨hns, d2⟩, fun x hx => ?_, d4, d5, fun x hx => ?_, fun x hx => ?_, fun x hx => ?_, ⟨Nat.zero_le _, fun j hj => absurd hj (by omega), by omega, fun j hj => ?_, ?_⟩⟩
  · rcases List.mem_cons.1 hx with h | h
    · rw [h]; exact hn
    · exact d3 x h
  · by_cases e : x = E u f
    · subst e; rw [upd_same]; simp
    · rw [upd_other _ _ _ _ e, d6 x hx]; simp [e]
  · by_cases e : x = E u f
    · subst e
      rw [upd_same]
      constructor
      · intro h; omega
      · intro h; have := (d7 _ hn).2 h; omega
    · rw [upd_other _ _ _ _ e]; exact d7 x hx
  · by_cases e : x = E u f
    · subst e; rw [upd_same]; omega
    · rw [upd_other _ _ _ _ e]; exact d8 x hx
  · by_cases e : j = f
    · subst e; exact .inr (by simp)
    · rcases f2 j (by omega) with h | h
      · exact .inl h
      · simp at h
  · exact f3.mono fun x hx => by
      rcases hx with h | h
      · exact .inl h
      · simp at h; subst h; exact .inr (by simp)

theorem DI.open (d : DI n L E ((u, f) :: t) fin st) (hf : f < L u) (hn : E u f < n) (h1 : st (E u f) = 1) : ∃ m, Wk (Ed n L E) (m + 1) (E u f) (E u f) := by
  obtain ⟨d1, d2, d3, d4, d5, d6, d7, d8, d9⟩ := d
  simp only [List.map_cons] at d1 d2 d3 d6
  have hun : u < n := d3 u (by simp)
  obtain ⟨k, hk⟩ := stk_walk d1 ((d6 _ hn).1 h1)
  exact ⟨k, u, hk, hun, f, hf, rfl⟩

theorem DI.le (d : DI n L E ((u, f) :: t) fin st) : f ≤ L u ∧ u < n := ⟨d.2.2.2.2.2.2.2.2.1, d.2.2.1 u (by simp)⟩

/-- the rounds still to come -/
def wsum (L : Nat → Nat) : List (Nat × Nat) → Nat
  | [] => 0
  | (u, f) :: t => (L u - f + 1) + wsum L t
def phi (n : Nat) (L : Nat → Nat) (s : List (Nat × Nat)) (fin : List Nat) : Nat := 131074 * (n - (s.length + fin.length)) + wsum L s
theorem phi_pop : phi n L t (u :: fin) < phi n L ((u, f) :: t) fin := by
  simp only [phi, wsum, List.length_cons]
  rw [show t.length + (fin.length + 1) = t.length + 1 + fin.length by omega]
  omega
theorem phi_done (hf : f < L u) : phi n L ((u, f + 1) :: t) fin < phi n L ((u, f) :: t) fin := by
  simp only [phi, wsum, List.length_cons]
  omega
theorem phi_push {x : Nat} (hf : f < L u) (hx : L x ≤ 131072) (hl : ((x, 0) :: (u, f + 1) :: t).length + fin.length ≤ n) : phi n L ((x, 0) :: (u, f + 1) :: t) fin < phi n L ((u, f) :: t) fin := by
  simp only [phi, wsum, List.length_cons] at hl ⊢
  omega

/-- the stack's cells -/
def pcells : List (Nat × Nat) → List Value
  | [] => []
  | (u, f) :: t => pcells t ++ [.int .i64 ((u : Nat) : Int), .int .i64 ((f : Nat) : Int)]
theorem pcells_len : ∀ s, (pcells s).length = s.length * 2
  | [] => rfl
  | (u, f) :: t => by simp [pcells, pcells_len t]; omega
end Go.Proofs.Qxb6600485a
