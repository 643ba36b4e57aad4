/-
  Plain facts on decimal numerals: no Go in sight.
-/
import Derived.Lib.ItoaNum
import Derived.Lib.ItoaLen
namespace Go.Proofs.Qxb6600485aDoor
open Go.Lib
set_option linter.unusedVariables false

/-- the number that a list of digits spells -/
def valL (l : List UInt8) : Nat := l.foldl (fun a b => a * 10 + (b.toNat - 48)) 0
theorem valL_nil : valL [] = 0 := rfl
theorem valL_snoc (l : List UInt8) (b : UInt8) : valL (l ++ [b]) = valL l * 10 + (b.toNat - 48) := by simp [valL]

/-- a digit -/
def isDig (b : UInt8) : Prop := 48 ≤ b.toNat ∧ b.toNat ≤ 57
theorem isDig_of (k : Nat) (h : k < 10) : isDig (UInt8.ofNat (48 + k)) ∧ (UInt8.ofNat (48 + k)).toNat = 48 + k := by
  have : (UInt8.ofNat (48 + k)).toNat = 48 + k := by rw [UInt8.toNat_ofNat']; omega
  exact ⟨by unfold isDig; omega, this⟩

theorem dec_step {u : Nat} (h : ¬ u < 10) : decDigits u = decDigits (u / 10) ++ [UInt8.ofNat (48 + u % 10)] := by rw [decDigits, dif_neg h]

theorem dec_dig (u : Nat) : ∀ b ∈ decDigits u, isDig b := by
  induction u using Nat.strongRecOn with
  | ind u ih =>
    by_cases h : u < 10
    · rw [decDigits_one h]
      intro b hb
      rw [List.mem_singleton] at hb
      subst hb
      exact (isDig_of u h).1
    · rw [dec_step h]
      intro b hb
      rcases List.mem_append.1 hb with hb | hb
      · exact ih (u / 10) (by omega) b hb
      · rw [List.mem_singleton] at hb
        subst hb
        exact (isDig_of (u % 10) (by omega)).1

theorem dec_val (u : Nat) : valL (decDigits u) = u := by
  induction u using Nat.strongRecOn with
  | ind u ih =>
    by_cases h : u < 10
    · rw [decDigits_one h]
      have := (isDig_of u h).2
      simp only [valL, List.foldl_cons, List.foldl_nil]
      omega
    · rw [dec_step h, valL_snoc, ih (u / 10) (by omega), (isDig_of (u % 10) (by omega)).2]
      omega

theorem dec_ne (u : Nat) : decDigits u ≠ [] := by
  intro h
  have := decDigits_length u
  have := nDigits_pos u
  rw [h] at *
  simp at *
  omega

/-- the first digit is 0 for 0 alone -/
theorem dec_head (u : Nat) (hu : 0 < u) : ∀ b t, decDigits u = b :: t → 49 ≤ b.toNat := by
  induction u using Nat.strongRecOn with
  | ind u ih =>
    intro b t hb
    by_cases h : u < 10
    · rw [decDigits_one h] at hb
      rw [← (List.cons.inj hb).1, (isDig_of u h).2]
      omega
    · rw [dec_step h] at hb
      cases hd : decDigits (u / 10) with
      | nil => exact absurd hd (dec_ne _)
      | cons x s =>
        rw [hd] at hb
        simp at hb
        rw [← hb.1]
        exact ih (u / 10) (by omega) (by omega) x s hd

theorem dec_zero : decDigits 0 = [48] := by rw [decDigits_one (by omega)]; rfl

theorem valL_take_le (l : List UInt8) (k : Nat) : valL (l.take k) ≤ valL l := by
  have key : ∀ (m : List UInt8) (a : Nat), a ≤ m.foldl (fun a b => a * 10 + (b.toNat - 48)) a := by
    intro m
    induction m with
    | nil => intro a; simp
    | cons b m ih => intro a; have := ih (a * 10 + (b.toNat - 48)); simp only [List.foldl_cons]; omega
  have e : valL l = (l.drop k).foldl (fun a b => a * 10 + (b.toNat - 48)) (valL (l.take k)) := by
    unfold valL
    rw [← List.foldl_append, List.take_append_drop]
  rw [e]
  exact key _ _

theorem dec_len (u : Nat) (h : u ≤ 9223372036854775808) : (decDigits u).length ≤ 19 := by
  rw [decDigits_length]
  refine Classical.byContradiction fun hn => ?_
  have key : ∀ (k u : Nat), k + 1 ≤ nDigits u → 10 ^ k ≤ u ∨ u < 10 := by
    intro k
    induction k with
    | zero => intro u _; omega
    | succ k ih =>
      intro u hk
      by_cases h10 : u < 10
      · exact .inr h10
      · rw [nDigits_big h10] at hk
        rcases ih (u / 10) (by omega) with h | h
        · left
          rw [Nat.pow_succ]
          omega
        · cases k with
          | zero => left; omega
          | succ k => 
            rw [nDigits_small h] at hk
            omega
  rcases key 19 u (by omega) with h' | h'
  · have : (10 : Nat) ^ 19 = 10000000000000000000 := by decide
    omega
  · rw [nDigits_small h'] at hn
    omega

/-- no byte of a numeral is a space -/
theorem itoa_ne32 (n : Int) : ∀ b ∈ itoa n, b.toNat ≠ 32 := by
  unfold itoa
  split
  · intro b hb
    rcases List.mem_cons.1 hb with rfl | hb
    · decide
    · have := dec_dig _ b hb; unfold isDig at this; omega
  · intro b hb
    have := dec_dig _ b hb; unfold isDig at this; omega

theorem itoa_pos (n : Int) : 0 < (itoa n).length := by
  unfold itoa
  split
  · simp
  · have := dec_ne n.toNat
    cases h : decDigits n.toNat with
    | nil => exact absurd h this
    | cons => simp
theorem itoa_le (n : Int) (h0 : -9223372036854775808 ≤ n) (h1 : n ≤ 9223372036854775807) : (itoa n).length ≤ 20 := by
  unfold itoa
  split
  · have := dec_len n.natAbs (by omega); simp; omega
  · have := dec_len n.toNat (by omega); omega

end Go.Proofs.Qxb6600485aDoor
