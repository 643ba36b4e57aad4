/-
  Plain facts on finite graphs: no Go in sight.
-/
namespace Go.Proofs.Qxb6600485a
set_option linter.unusedVariables false

/-! ### lists of nodes below n -/
theorem nodup_len : ∀ (n : Nat) (l : List Nat), l.Nodup → (∀ x ∈ l, x < n) → l.length ≤ n
  | 0, l, _, h => by
    cases l with
    | nil => simp
    | cons x t => exact absurd (h x (by simp)) (by omega)
  | n + 1, l, hd, h => by
    by_cases hn : n ∈ l
    · have h1 := nodup_len n (l.erase n) (hd.erase n) (fun x hx => by
        have hx' := List.mem_of_mem_erase hx
        have := h x hx'
        have hne : x ≠ n := fun e => by subst e; exact hd.not_mem_erase hx
        omega)
      rw [List.length_erase_of_mem hn] at h1
      omega
    · have h1 := nodup_len n l hd (fun x hx => by
        have := h x hx
        have hne : x ≠ n := fun e => by subst e; exact hn hx
        omega)
      omega

theorem sub_len : ∀ (n : Nat) (l : List Nat), (∀ w, w < n → w ∈ l) → n ≤ l.length
  | 0, l, _ => Nat.zero_le _
  | n + 1, l, h => by
    have hn := h n (by omega)
    have h1 := sub_len n (l.erase n) (fun w hw => (List.mem_erase_of_ne (by omega)).2 (h w (by omega)))
    rw [List.length_erase_of_mem hn] at h1
    have : 0 < l.length := List.length_pos_of_mem hn
    omega

theorem full_of_len {n : Nat} {l : List Nat} (hd : l.Nodup) (h : ∀ x ∈ l, x < n) (hl : l.length = n) : ∀ w, w < n → w ∈ l := by
  intro w hw
  refine Classical.byContradiction fun hn => ?_
  have := nodup_len n (w :: l) (List.nodup_cons.2 ⟨hn, hd⟩) (fun x hx => by
    rcases List.mem_cons.1 hx with rfl | hx
    · exact hw
    · exact h x hx)
  simp at this
  omega

/-! ### walks -/
/-- a walk of k steps -/
def Wk (R : Nat → Nat → Prop) : Nat → Nat → Nat → Prop
  | 0, u, v => u = v
  | k + 1, u, v => ∃ x, Wk R k u x ∧ R x v

theorem Wk.cons {R : Nat → Nat → Prop} : ∀ {k u x v : Nat}, R u x → Wk R k x v → Wk R (k + 1) u v
  | 0, u, x, v, h, hw => ⟨u, rfl, by have : x = v := hw; subst this; exact h⟩
  | k + 1, u, x, v, h, ⟨y, hy, hr⟩ => ⟨y, Wk.cons h hy, hr⟩

/-- an order: each node's successors lie behind it -/
def Topo (R : Nat → Nat → Prop) : List Nat → Prop
  | [] => True
  | u :: B => (∀ v, R u v → v ∈ B) ∧ u ∉ B ∧ Topo R B
def rk : List Nat → Nat → Nat
  | [], _ => 0
  | x :: B, u => if x = u then B.length + 1 else rk B u
theorem rk_le : ∀ (l : List Nat) (u : Nat), rk l u ≤ l.length
  | [], _ => Nat.le_refl _
  | x :: B, u => by
    have := rk_le B u
    simp only [rk]
    split
    · simp
    · simp; omega
theorem topo_rk {R : Nat → Nat → Prop} : ∀ {l : List Nat}, Topo R l → ∀ {u v}, u ∈ l → R u v → v ∈ l ∧ rk l v < rk l u
  | [], _, u, v, hu, _ => by simp at hu
  | x :: B, ⟨h1, h2, h3⟩, u, v, hu, hr => by
    by_cases e : x = u
    · subst e
      have hv := h1 v hr
      have hne : x ≠ v := fun e => by subst e; exact h2 hv
      refine ⟨List.mem_cons_of_mem _ hv, ?_⟩
      simp only [rk, if_neg hne, if_pos]
      have := rk_le B v
      omega
    · have hu' : u ∈ B := by
        rcases List.mem_cons.1 hu with h | h
        · exact absurd h.symm e
        · exact h
      obtain ⟨hv, hlt⟩ := topo_rk h3 hu' hr
      have hne : x ≠ v := fun e => by subst e; exact h2 hv
      refine ⟨List.mem_cons_of_mem _ hv, ?_⟩
      simp only [rk, if_neg hne, if_neg e]
      exact hlt
theorem topo_walk {R : Nat → Nat → Prop} {l : List Nat} (h : Topo R l) : ∀ {k u v : Nat}, u ∈ l → Wk R k u v → v ∈ l ∧ rk l v + k ≤ rk l u
  | 0, u, v, hu, hw => by have : u = v := hw; subst this; exact ⟨hu, Nat.le_refl _⟩
  | k + 1, u, v, hu, ⟨x, hx, hr⟩ => by
    obtain ⟨h1, h2⟩ := topo_walk h hu hx
    obtain ⟨h3, h4⟩ := topo_rk h h1 hr
    exact ⟨h3, by omega⟩
theorem topo_acyclic {R : Nat → Nat → Prop} {l : List Nat} (h : Topo R l) {k v : Nat} (hv : v ∈ l) (hw : Wk R (k + 1) v v) : False := by
  have := (topo_walk h hv hw).2
  omega
theorem topo_nodup {R : Nat → Nat → Prop} : ∀ {l : List Nat}, Topo R l → l.Nodup
  | [], _ => List.nodup_nil
  | x :: B, ⟨_, h2, h3⟩ => List.nodup_cons.2 ⟨h2, topo_nodup h3⟩

/-- the same walk, read backwards -/
theorem Wk.flip {R : Nat → Nat → Prop} : ∀ {k u v : Nat}, Wk R k u v → Wk (fun a b => R b a) k v u
  | 0, u, v, h => by have : u = v := h; exact this.symm
  | k + 1, u, v, ⟨x, hx, hr⟩ => Wk.cons hr (Wk.flip hx)

/-! ### the search's stack -/
/-- the top first; each node reached from the one below it -/
def Stk (R : Nat → Nat → Prop) : List Nat → Prop
  | x :: y :: t => R y x ∧ Stk R (y :: t)
  | _ => True
theorem stk_walk {R : Nat → Nat → Prop} : ∀ {t : List Nat} {u x : Nat}, Stk R (u :: t) → x ∈ u :: t → ∃ k, Wk R k x u
  | [], u, x, _, hx => ⟨0, (List.mem_singleton.1 hx : x = u)⟩
  | y :: t, u, x, ⟨h1, h2⟩, hx => by
    rcases List.mem_cons.1 hx with h | h
    · exact ⟨0, h⟩
    · obtain ⟨k, hk⟩ := stk_walk h2 h
      exact ⟨k + 1, y, hk, h1⟩

/-! ### what Kahn leaves -/
theorem kahn_full {R : Nat → Nat → Prop} {n : Nat} {l q : List Nat} (hl : Topo R l) (hf : ∀ w, w < n → w ∈ l) (hR : ∀ u w, R u w → u < n ∧ w < n)
    (h : ∀ w, w < n → w ∉ q → ∃ u, u ∉ q ∧ R u w) : ∀ w, w < n → w ∈ q := by
  have key : ∀ m w, w < n → l.length - rk l w ≤ m → w ∈ q := by
    intro m
    induction m with
    | zero =>
      intro w hw hm
      refine Classical.byContradiction fun hn => ?_
      obtain ⟨u, hu, hr⟩ := h w hw hn
      have hun := (hR u w hr).1
      have := (topo_rk hl (hf u hun) hr).2
      have := rk_le l u
      omega
    | succ m ih =>
      intro w hw hm
      refine Classical.byContradiction fun hn => ?_
      obtain ⟨u, hu, hr⟩ := h w hw hn
      have hun := (hR u w hr).1
      have := (topo_rk hl (hf u hun) hr).2
      have := rk_le l u
      exact hu (ih u hun (by omega))
  exact fun w hw => key _ w hw (Nat.le_refl _)

/-- a shortest closed walk -/
def IsMin (R : Nat → Nat → Prop) (v m : Nat) : Prop := 1 ≤ m ∧ Wk R m v v ∧ ∀ k, 1 ≤ k → Wk R k v v → m ≤ k

/-- a function turned at one place -/
def upd {α : Type} (f : Nat → α) (k : Nat) (x : α) : Nat → α := fun i => if i = k then x else f i
theorem upd_same {α : Type} (f : Nat → α) (k : Nat) (x : α) : upd f k x k = x := by simp [upd]
theorem upd_other {α : Type} (f : Nat → α) (k i : Nat) (x : α) (h : i ≠ k) : upd f k x i = f i := by simp [upd, h]

end Go.Proofs.Qxb6600485a
