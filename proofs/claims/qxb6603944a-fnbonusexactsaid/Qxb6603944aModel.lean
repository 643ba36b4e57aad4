/-
  cb1StrictlyIncreasing and cb1BonusModel: their contracts.
-/
import Derived.Test.Qxb6603944aDueWalk
namespace Go.Proofs.Qxb6603944a
open Go.RowKit
set_option linter.unusedVariables false

/-- the thresholds rise strictly -/
def Rising (T : Nat → Int) (n : Nat) : Prop := ∀ i, i + 1 < n → T i < T (i + 1)

theorem rise_step {T : Nat → Int} {m : Nat} (h : ∀ i, i + 1 < m + 1 → T i < T (i + 1)) (hm : T m < T (m + 1)) : ∀ i, i + 1 < m + 2 → T i < T (i + 1) := by
  intro i hi
  by_cases e : i = m
  · subst e; exact hm
  · exact h i (by omega)

set_option maxHeartbeats 400000 in
theorem rise11_any (w : World) (a : Option Addr) (n c : Nat) (T A : Nat → Int) (hr : PairRow w a n c T A) (hn : n ≤ 65536) :
    Calls Try.prog 11 #[.slice a n c] w fun e w' => RetB (fun r => r = true → Rising T n) e ∧ Below w.heap.size w w' := by
  go_enter Try.func11, Try.ntmps11
  go_wp2
  go_loopw [3] (fun i wr => ∃ k : Nat, 1 ≤ k ∧ (k ≤ n ∨ k = 1) ∧ i = .int .i64 k ∧ Hid (∀ i, i + 1 < k → T i < T (i + 1)) ∧ Below w.heap.size w wr) (fun i _ => n - (intOf i).toNat)
  case atStart => exact ⟨1, Nat.le_refl _, .inr rfl, rfl, fun i hi => absurd hi (by omega), Below.refl _ _⟩
  case round =>
    obtain ⟨k, hk1, hk, rfl, hall, hbr⟩ := hrel
    obtain ⟨m, rfl⟩ : ∃ m, k = m + 1 := ⟨k - 1, by omega⟩
    by_cases hlt : m + 1 < n
    · obtain ⟨rb, ro, hbe, hc⟩ := hr.2 (by omega)
      subst hbe
      have r0 := cell_later hbr (hc (m + 1) hlt).1
      have r1 := cell_later hbr (hc m (by omega)).1
      have hwm : IntKind.i64.wrap (m : Int) = m := by rw [IntKind.wrap_i64]; omega
      have hmn : (m : Int) < n := by omega
      have hmn1 : (m : Int) + 1 < n := by omega
      clear hc
      by_cases hT : T (m + 1) ≤ T m
      · go_wp2
        go_quiet (fail)
        go_wp2
        go_ret
        exact ⟨⟨_, rfl, by simp⟩, below_drewN hbr _⟩
      · go_wp2
        go_quiet (fail)
        go_wp2
        go_roundw
        case rel => exact ⟨m + 2, by omega, by omega, by go_num, rise_step hall.out (by omega), below_drewN hbr _⟩
        case measure => simp [intOf]; omega
    · go_wp2
      go_ret
      exact ⟨⟨_, rfl, fun _ i hi => hall.out i (by omega)⟩, hbr⟩

theorem rising_lt {T : Nat → Int} {n : Nat} (h : Rising T n) : ∀ j, j < n → ∀ i, i < j → T i < T j := by
  intro j
  induction j with
  | zero => intro _ i hi; omega
  | succ j ih =>
    intro hj i hi
    have h1 := h j hj
    by_cases e : i = j
    · subst e; exact h1
    · have := ih (by omega) i (by omega)
      omega

/-- from the top: a level that is reached is the last that is -/
theorem lead_top {T : Nat → Int} {r : Int} {n m : Nat} (h : Rising T n) (hm : m < n) (hl : lead T r n ≤ m + 1) (ht : T m ≤ r) : lead T r n = m + 1 := by
  refine Classical.byContradiction fun hne => ?_
  have h1 := lead_stop T r n (by omega)
  by_cases e : lead T r n = m
  · rw [e] at h1; omega
  · have := rising_lt h m hm (lead T r n) (by omega)
    omega
theorem lead_down {T : Nat → Int} {r : Int} {n m : Nat} (hl : lead T r n ≤ m + 1) (ht : r < T m) : lead T r n ≤ m := by
  refine Classical.byContradiction fun hne => ?_
  have := lead_all T r n m (by omega)
  omega

set_option maxHeartbeats 400000 in
theorem model15_nil (w : World) (am cn sa : Int) : Calls Try.prog 15 #[.int .i64 am, .pointer none, .int .i64 cn, .int .i64 sa] w fun e w' => e = .returned (.tuple #[.int .i64 am, .bool true]) ∧ w' = w := by
  go_enter Try.func15, Try.ntmps15
  go_wp2
  go_ret2
  exact ⟨rfl, rfl⟩

set_option maxHeartbeats 400000 in
theorem model15_other (w : World) (am cn sa : Int) (b o : Nat) (dim : ByteArray) (n : Nat) (T A : Nat → Int) (h : TiersIn w b o dim n T A) (c1 : (dim.toList == sSalesCount) = false) (c2 : (dim.toList == sSalesAmount) = false) :
    Calls Try.prog 15 #[.int .i64 am, .pointer (some ⟨b, o, none⟩), .int .i64 cn, .int .i64 sa] w fun e w' => e = .returned (.tuple #[.int .i64 0, .bool false]) ∧ w' = w := by
  obtain ⟨a, c, h0, h1, hr⟩ := h
  unfold sSalesCount at c1
  unfold sSalesAmount at c2
  go_enter Try.func15, Try.ntmps15
  go_wp2
  go_ret2
  exact ⟨rfl, rfl⟩

set_option maxHeartbeats 1000000 in
theorem model15_reach (w : World) (am cn sa r : Int) (b o : Nat) (dim : ByteArray) (n : Nat) (T A : Nat → Int) (h : TiersIn w b o dim n T A) (hn : n ≤ 65536) (hd : reachedOf dim cn sa = some r) (hris : Rising T n) :
    Calls Try.prog 15 #[.int .i64 am, .pointer (some ⟨b, o, none⟩), .int .i64 cn, .int .i64 sa] w fun e w' => e = .returned (.tuple #[.int .i64 (bAmt A (lead T r n)), .bool (bDue (lead T r n))]) ∧ w' = w := by
  obtain ⟨a, c, h0, h1, hr⟩ := h
  have hle := lead_le T r n
  have hcase := reach_cases hd
  clear hd
  rcases hcase with ⟨c1, rfl⟩ | ⟨c1, c2, rfl⟩
  · go_enter Try.func15, Try.ntmps15
    go_wp2
    go_loop [11] (fun i => ∃ k : Nat, k ≤ n ∧ lead T cn n ≤ k ∧ i = .int .i64 ((k : Int) - 1)) (fun i => (intOf i + 1).toNat)
    case atStart => exact ⟨n, Nat.le_refl _, hle, rfl⟩
    case round =>
      obtain ⟨k, hk, hlk, rfl⟩ := hrel
      cases k with
      | zero =>
        go_wp2
        go_ret2
        rw [show lead T cn n = 0 by omega]
        exact ⟨rfl, rfl⟩
      | succ m =>
        obtain ⟨rb, ro, hbe, hc⟩ := hr.2 (by omega)
        subst hbe
        have r0 := (hc m (by omega)).1
        have r1 := (hc m (by omega)).2
        clear hc
        rw [show (((m + 1 : Nat) : Int) - 1) = m by omega]
        have hmn : (m : Int) < n := by omega
        by_cases ht : T m ≤ cn
        · have HE : Hid (lead T cn n = m + 1) := lead_top hris (by omega) hlk ht
          go_wp2
          go_ret2
          rw [HE.out, bAmt_succ, bDue_succ]
          exact ⟨rfl, rfl⟩
        · have hld := lead_down hlk (by omega)
          go_wp2
          go_round
          case rel => exact ⟨m, by omega, hld, by go_num⟩
          case measure => simp [intOf]
  · go_enter Try.func15, Try.ntmps15
    go_wp2
    go_loop [11] (fun i => ∃ k : Nat, k ≤ n ∧ lead T sa n ≤ k ∧ i = .int .i64 ((k : Int) - 1)) (fun i => (intOf i + 1).toNat)
    case atStart => exact ⟨n, Nat.le_refl _, hle, rfl⟩
    case round =>
      obtain ⟨k, hk, hlk, rfl⟩ := hrel
      cases k with
      | zero =>
        go_wp2
        go_ret2
        rw [show lead T sa n = 0 by omega]
        exact ⟨rfl, rfl⟩
      | succ m =>
        obtain ⟨rb, ro, hbe, hc⟩ := hr.2 (by omega)
        subst hbe
        have r0 := (hc m (by omega)).1
        have r1 := (hc m (by omega)).2
        clear hc
        rw [show (((m + 1 : Nat) : Int) - 1) = m by omega]
        have hmn : (m : Int) < n := by omega
        by_cases ht : T m ≤ sa
        · have HE : Hid (lead T sa n = m + 1) := lead_top hris (by omega) hlk ht
          go_wp2
          go_ret2
          rw [HE.out, bAmt_succ, bDue_succ]
          exact ⟨rfl, rfl⟩
        · have hld := lead_down hlk (by omega)
          go_wp2
          go_round
          case rel => exact ⟨m, by omega, hld, by go_num⟩
          case measure => simp [intOf]
end Go.Proofs.Qxb6603944a
