/-
  The plain law of Bonus and its contract.
-/
import Derived.Test.Qxb6603944aTiers
namespace Go.Proofs.Qxb6603944a
open Go.RowKit
set_option linter.unusedVariables false

/-- how many of the first n levels are reached before the first that is not -/
def lead (T : Nat → Int) (r : Int) : Nat → Nat
  | 0 => 0
  | n + 1 => if lead T r n = n ∧ T n ≤ r then n + 1 else lead T r n

def bAmt (A : Nat → Int) (m : Nat) : Int := if m = 0 then 0 else A (m - 1)
def bDue (m : Nat) : Bool := decide (m ≠ 0)

theorem lead_le (T : Nat → Int) (r : Int) (n : Nat) : lead T r n ≤ n := by
  induction n with
  | zero => simp [lead]
  | succ n ih => simp only [lead]; split <;> omega
theorem lead_all (T : Nat → Int) (r : Int) (n : Nat) : ∀ i, i < lead T r n → T i ≤ r := by
  induction n with
  | zero => simp [lead]
  | succ n ih =>
    intro i hi
    simp only [lead] at hi
    split at hi
    · rename_i h
      by_cases e : i = n
      · subst e; exact h.2
      · exact ih i (by omega)
    · exact ih i hi
theorem lead_stop (T : Nat → Int) (r : Int) (n : Nat) : lead T r n < n → r < T (lead T r n) := by
  induction n with
  | zero => simp
  | succ n ih =>
    intro h
    simp only [lead] at h ⊢
    split
    · rename_i h'; rw [if_pos h'] at h; omega
    · rename_i h'
      rw [if_neg h'] at h
      by_cases e : lead T r n = n
      · have : ¬ T n ≤ r := fun h2 => h' ⟨e, h2⟩
        rw [e]; omega
      · exact ih (by have := lead_le T r n; omega)
theorem lead_eq (T : Nat → Int) (r : Int) (n m : Nat) (hm : m ≤ n) (h1 : ∀ i, i < m → T i ≤ r) (h2 : m < n → r < T m) : lead T r n = m := by
  have a := lead_le T r n
  have b := lead_all T r n
  have c := lead_stop T r n
  rcases Nat.lt_trichotomy (lead T r n) m with h | h | h
  · have := c (by omega); have := h1 _ h; omega
  · exact h
  · have := h2 (by omega); have := b _ h; omega

set_option maxHeartbeats 400000 in
theorem bonus14_nil (w : World) (tr : ByteArray) (th am fa cn sa : Int) (fe : Bool) :
    Calls Try.prog 14 #[.agg #[.string tr, .int .i64 th, .int .i64 am, .pointer none, .bool fe, .int .i64 fa], .agg #[.int .i64 cn, .int .i64 sa]] w fun e w' => e = .returned (.tuple #[.int .i64 am, .bool true]) ∧ Below w.heap.size w w' := by
  go_enter Try.func14, Try.ntmps14
  go_wp2
  go_ret2
  exact ⟨rfl, ((Below.refl _ _).alloc (Nat.le_refl _) _).alloc (by simp) _⟩

def sSalesCount : List UInt8 := [115, 97, 108, 101, 115, 95, 99, 111, 117, 110, 116]
def sSalesAmount : List UInt8 := [115, 97, 108, 101, 115, 95, 97, 109, 111, 117, 110, 116]

set_option maxHeartbeats 400000 in
theorem bonus14_other (w : World) (tr : ByteArray) (th am fa cn sa : Int) (fe : Bool) (b o : Nat) (dim : ByteArray) (n : Nat) (T A : Nat → Int) (h : TiersIn w b o dim n T A)
    (c1 : (dim.toList == sSalesCount) = false) (c2 : (dim.toList == sSalesAmount) = false) :
    Calls Try.prog 14 #[.agg #[.string tr, .int .i64 th, .int .i64 am, .pointer (some ⟨b, o, none⟩), .bool fe, .int .i64 fa], .agg #[.int .i64 cn, .int .i64 sa]] w fun e w' => e = .returned (.tuple #[.int .i64 0, .bool false]) ∧ Below w.heap.size w w' := by
  obtain ⟨a, c, h0, h1, hr⟩ := h
  have hb : b < w.heap.size := World.block_lt_of_cell? _ _ h0
  unfold sSalesCount at c1
  unfold sSalesAmount at c2
  go_enter Try.func14, Try.ntmps14
  go_wp2
  go_ret2
  exact ⟨rfl, ((Below.refl _ _).alloc (Nat.le_refl _) _).alloc (by simp) _⟩

/-- what a rule's Tiers make of the sales -/
def reachedOf (dim : ByteArray) (cn sa : Int) : Option Int :=
  if (dim.toList == sSalesCount) = true then some cn else if (dim.toList == sSalesAmount) = true then some sa else none

theorem bAmt_succ (A : Nat → Int) (k : Nat) : bAmt A (k + 1) = A k := by simp [bAmt]
theorem bDue_succ (k : Nat) : bDue (k + 1) = true := by simp [bDue]

theorem all_succ {T : Nat → Int} {r : Int} {k : Nat} (h : ∀ i, i < k → T i ≤ r) (hk : T k ≤ r) : ∀ i, i < k + 1 → T i ≤ r := by
  intro i hi
  by_cases e : i = k
  · subst e; exact hk
  · exact h i (by omega)

set_option maxHeartbeats 1000000 in
theorem bonus14_reach (w : World) (tr : ByteArray) (th am fa cn sa r : Int) (fe : Bool) (b o : Nat) (dim : ByteArray) (n : Nat) (T A : Nat → Int) (h : TiersIn w b o dim n T A) (hn : n ≤ 65536)
    (hd : reachedOf dim cn sa = some r) :
    Calls Try.prog 14 #[.agg #[.string tr, .int .i64 th, .int .i64 am, .pointer (some ⟨b, o, none⟩), .bool fe, .int .i64 fa], .agg #[.int .i64 cn, .int .i64 sa]] w fun e w' =>
      e = .returned (.tuple #[.int .i64 (bAmt A (lead T r n)), .bool (bDue (lead T r n))]) ∧ Below w.heap.size w w' := by
  obtain ⟨a, c, h0, h1, hr⟩ := h
  have hb : b < w.heap.size := World.block_lt_of_cell? _ _ h0
  have hle := lead_le T r n
  have HE : Hid (∀ m, m ≤ n → (∀ i, i < m → T i ≤ r) → (m < n → r < T m) → lead T r n = m) := lead_eq T r n
  have hcase : ((dim.toList == sSalesCount) = true ∧ cn = r) ∨ ((dim.toList == sSalesCount) = false ∧ (dim.toList == sSalesAmount) = true ∧ sa = r) := by
    unfold reachedOf at hd
    by_cases e : (dim.toList == sSalesCount) = true
    · rw [if_pos e] at hd; exact .inl ⟨e, Option.some.inj hd⟩
    · rw [if_neg e] at hd
      by_cases e2 : (dim.toList == sSalesAmount) = true
      · rw [if_pos e2] at hd; exact .inr ⟨by simpa using e, e2, Option.some.inj hd⟩
      · rw [if_neg e2] at hd; cases hd
  clear hd
  unfold sSalesCount sSalesAmount at hcase
  rcases hcase with ⟨c1, rfl⟩ | ⟨c1, c2, rfl⟩
  · go_enter Try.func14, Try.ntmps14
    go_wp2
    go_loopw [7, 8, 35] (fun am du i wr => ∃ k : Nat, k ≤ n ∧ i = .int .i64 k ∧ am = .int .i64 (bAmt A k) ∧ du = .bool (bDue k) ∧ Hid (∀ i, i < k → T i ≤ cn) ∧ Below w.heap.size w wr ∧ w.heap.size + 2 ≤ wr.heap.size) (fun _ _ i _ => n - (intOf i).toNat)
    case atStart => exact ⟨0, Nat.zero_le _, rfl, rfl, rfl, fun i hi => absurd hi (by omega), ((Below.refl _ _).alloc (Nat.le_refl _) _).alloc (by simp) _, by simp⟩
    case round =>
      obtain ⟨k, hk, rfl, rfl, rfl, hall, hbr, hsz⟩ := hrel
      by_cases hlt : k < n
      · obtain ⟨rb, ro, had, hc⟩ := hr.2 (by omega)
        subst had
        have hrb : rb < w.heap.size := World.block_lt_of_cell? _ _ (hc k hlt).1
        have r0 : wr.cell? ⟨rb, ro + k * 2, none⟩ = some (.int .i64 (T k)) := (hbr.cell (by exact hrb)).trans (hc k hlt).1
        have r1 : wr.cell? ⟨rb, ro + k * 2 + 1, none⟩ = some (.int .i64 (A k)) := (hbr.cell (by exact hrb)).trans (hc k hlt).2
        clear hc h0 h1
        by_cases hT : cn < T k
        · go_wp2
          go_ret2
          rw [HE.out k hk hall.out (fun _ => hT)]
          exact ⟨rfl, hbr.alloc (by omega) _⟩
        · go_wp2
          go_roundw
          case rel => exact ⟨k + 1, by omega, by go_num, by rw [bAmt_succ], by rw [bDue_succ], all_succ hall.out (by omega), hbr.alloc (by omega) _, by simp; omega⟩
          case measure => simp [intOf]; omega
      · have e : k = n := by omega
        clear h0 h1
        go_wp2
        go_ret2
        rw [HE.out k hk hall.out (fun h => absurd h hlt)]
        exact ⟨rfl, hbr⟩
  · go_enter Try.func14, Try.ntmps14
    go_wp2
    go_loopw [7, 8, 35] (fun am du i wr => ∃ k : Nat, k ≤ n ∧ i = .int .i64 k ∧ am = .int .i64 (bAmt A k) ∧ du = .bool (bDue k) ∧ Hid (∀ i, i < k → T i ≤ sa) ∧ Below w.heap.size w wr ∧ w.heap.size + 2 ≤ wr.heap.size) (fun _ _ i _ => n - (intOf i).toNat)
    case atStart => exact ⟨0, Nat.zero_le _, rfl, rfl, rfl, fun i hi => absurd hi (by omega), ((Below.refl _ _).alloc (Nat.le_refl _) _).alloc (by simp) _, by simp⟩
    case round =>
      obtain ⟨k, hk, rfl, rfl, rfl, hall, hbr, hsz⟩ := hrel
      by_cases hlt : k < n
      · obtain ⟨rb, ro, had, hc⟩ := hr.2 (by omega)
        subst had
        have hrb : rb < w.heap.size := World.block_lt_of_cell? _ _ (hc k hlt).1
        have r0 : wr.cell? ⟨rb, ro + k * 2, none⟩ = some (.int .i64 (T k)) := (hbr.cell (by exact hrb)).trans (hc k hlt).1
        have r1 : wr.cell? ⟨rb, ro + k * 2 + 1, none⟩ = some (.int .i64 (A k)) := (hbr.cell (by exact hrb)).trans (hc k hlt).2
        clear hc h0 h1
        by_cases hT : sa < T k
        · go_wp2
          go_ret2
          rw [HE.out k hk hall.out (fun _ => hT)]
          exact ⟨rfl, hbr.alloc (by omega) _⟩
        · go_wp2
          go_roundw
          case rel => exact ⟨k + 1, by omega, by go_num, by rw [bAmt_succ], by rw [bDue_succ], all_succ hall.out (by omega), hbr.alloc (by omega) _, by simp; omega⟩
          case measure => simp [intOf]; omega
      · have e : k = n := by omega
        clear h0 h1
        go_wp2
        go_ret2
        rw [HE.out k hk hall.out (fun h => absurd h hlt)]
        exact ⟨rfl, hbr⟩
end Go.Proofs.Qxb6603944a
