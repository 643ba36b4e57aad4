/-
  FnBonusDueClosedForm: the walk.
-/
import Derived.Test.Qxb6603944aBonus
namespace Go.Proofs.Qxb6603944a
open Go.RowKit
set_option linter.unusedVariables false

theorem bcell {W w1 : World} (hb : Below W.heap.size W w1) : (∀ b o, b < W.heap.size → w1.cell? ⟨b, o, none⟩ = W.cell? ⟨b, o, none⟩) :=
  fun b o h => hb.cell (p := ⟨b, o, none⟩) h

theorem below3 (w : World) (x y z : Obj) : Below w.heap.size w (((w.alloc x).alloc y).alloc z) :=
  (((Below.refl _ _).alloc (Nat.le_refl _) _).alloc (by simp) _).alloc (by simp only [World.size_alloc]; omega) _

set_option maxHeartbeats 1000000 in
theorem law4_nil (s : ByteArray) (th am fa cn sa : Int) (fe : Bool) (w : World) (hs : s.size ≤ maxLen) :
    Calls Try.prog 4 #[.string s, .int .i64 th, .int .i64 am, .pointer none, .bool fe, .int .i64 fa, .int .i64 cn, .int .i64 sa] w fun e w' => e = .returned (.bool true) ∧ Below w.heap.size w w' := by
  go_enter Try.func4, Try.ntmps4
  go_wp2_with fail
  refine (bytes16_nil _ _ _ _ _ _ _ _ hs).mono ?_
  rintro e w' ⟨⟨r, rfl, _⟩, rfl⟩
  cases r with
  | false =>
    go_wp2
    go_ret
    exact ⟨rfl, Below.refl _ _⟩
  | true =>
  go_wp2_with fail
  refine (fits10_nil _ _ hs).mono ?_
  rintro e w' ⟨⟨r, rfl, _⟩, rfl⟩
  cases r with
  | false =>
    go_wp2
    go_ret
    exact ⟨rfl, Below.refl _ _⟩
  | true =>
  go_wp2_with fail
  refine (clone12_nil _).mono ?_
  rintro e w' ⟨rfl, rfl⟩
  go_wp2_with fail
  refine (to13_nil _).mono ?_
  rintro e w' ⟨rfl, rfl⟩
  go_wp2_with fail
  refine (bonus14_nil _ _ _ _ _ _ _ _).mono ?_
  rintro e w1 ⟨rfl, hb1⟩
  have hc1 := bcell hb1
  have hz1 := hb1.size
  simp only [World.size_alloc] at hz1
  go_wp2_with fail
  refine (bonus14_nil _ _ _ _ _ _ _ _).mono ?_
  rintro e w2 ⟨rfl, hb2⟩
  go_wp2
  go_ret
  refine ⟨rfl, (below3 _ _ _ _).trans ((hb1.mono (by simp; omega)).trans (hb2.mono (by omega)))⟩

/-- the contract of Bonus at some Tiers, the case parted -/
def BonusGives (dim : ByteArray) (n : Nat) (T A : Nat → Int) (cn sa G : Int) (D : Bool) : Prop :=
  ∀ (w : World) (tr : ByteArray) (th am fa : Int) (fe : Bool) (b o : Nat), TiersIn w b o dim n T A → n ≤ 65536 →
    Calls Try.prog 14 #[.agg #[.string tr, .int .i64 th, .int .i64 am, .pointer (some ⟨b, o, none⟩), .bool fe, .int .i64 fa], .agg #[.int .i64 cn, .int .i64 sa]] w fun e w' =>
      e = .returned (.tuple #[.int .i64 G, .bool D]) ∧ Below w.heap.size w w'

theorem dims (dim : ByteArray) (cn sa : Int) (n : Nat) (T A : Nat → Int) :
    ((dim.toList == sSalesCount) = false ∧ (dim.toList == sSalesAmount) = false ∧ BonusGives dim n T A cn sa 0 false) ∨
    ∃ r, reachedOf dim cn sa = some r ∧ BonusGives dim n T A cn sa (bAmt A (lead T r n)) (bDue (lead T r n)) := by
  cases h : reachedOf dim cn sa with
  | some r => exact .inr ⟨r, rfl, fun w tr th am fa fe b o ht hn => bonus14_reach w tr th am fa cn sa r fe b o dim n T A ht hn h⟩
  | none =>
    unfold reachedOf at h
    by_cases e : (dim.toList == sSalesCount) = true
    · rw [if_pos e] at h; cases h
    · rw [if_neg e] at h
      by_cases e2 : (dim.toList == sSalesAmount) = true
      · rw [if_pos e2] at h; cases h
      · exact .inl ⟨by simpa using e, by simpa using e2, fun w tr th am fa fe b o ht hn => bonus14_other w tr th am fa cn sa fe b o dim n T A ht (by simpa using e) (by simpa using e2)⟩

theorem reach_cases {dim : ByteArray} {cn sa r : Int} (hd : reachedOf dim cn sa = some r) :
    ((dim.toList == [115, 97, 108, 101, 115, 95, 99, 111, 117, 110, 116]) = true ∧ cn = r) ∨ ((dim.toList == [115, 97, 108, 101, 115, 95, 99, 111, 117, 110, 116]) = false ∧ (dim.toList == [115, 97, 108, 101, 115, 95, 97, 109, 111, 117, 110, 116]) = true ∧ sa = r) := by
  unfold reachedOf at hd
  by_cases e : (dim.toList == sSalesCount) = true
  · rw [if_pos e] at hd; exact .inl ⟨e, Option.some.inj hd⟩
  · rw [if_neg e] at hd
    by_cases e2 : (dim.toList == sSalesAmount) = true
    · rw [if_pos e2] at hd; exact .inr ⟨by simpa [sSalesCount] using e, e2, Option.some.inj hd⟩
    · rw [if_neg e2] at hd; cases hd

/-- nothing is reached, or the last that is reached -/
theorem lead_zero (T : Nat → Int) (r : Int) (n : Nat) : (lead T r n = 0 → 0 < n → r < T 0) ∧ ∀ j, lead T r n = j + 1 → j < n ∧ T 0 ≤ r ∧ T j ≤ r := by
  have a := lead_le T r n
  have b := lead_all T r n
  have c := lead_stop T r n
  refine ⟨fun h hn => ?_, fun j h => ⟨by omega, b 0 (by omega), b j (by omega)⟩⟩
  rw [h] at c
  exact c hn

set_option maxRecDepth 100000 in
set_option maxHeartbeats 1000000 in
theorem law4_ptr (s : ByteArray) (th am fa cn sa : Int) (fe : Bool) (w : World) (hs : s.size ≤ maxLen) (b o : Nat) (dim : ByteArray) (n : Nat) (T A : Nat → Int) (h : TiersIn w b o dim n T A) (hd : dim.size ≤ maxLen) (hn : n ≤ maxLen) :
    Calls Try.prog 4 #[.string s, .int .i64 th, .int .i64 am, .pointer (some ⟨b, o, none⟩), .bool fe, .int .i64 fa, .int .i64 cn, .int .i64 sa] w fun e w' => e = .returned (.bool true) ∧ Below w.heap.size w w' := by
  go_enter Try.func4, Try.ntmps4
  go_wp2_with fail
  refine (bytes16_ptr _ _ _ _ _ _ _ _ hs _ _ _ _ _ _ h hd hn).mono ?_
  rintro e w' ⟨⟨r, rfl, _⟩, rfl⟩
  cases r with
  | false =>
    go_wp2
    go_ret
    exact ⟨rfl, Below.refl _ _⟩
  | true =>
  go_wp2_with fail
  refine (fits10_ptr _ _ hs _ _ _ _ _ _ h hd hn).mono ?_
  rintro e w1 ⟨⟨r, rfl, hr⟩, m, hw1⟩
  have hb1 : Below w'.heap.size w' w1 := by rw [hw1]; exact below_drewN (Below.refl _ _) m
  clear hw1
  cases r with
  | false =>
    clear hr
    go_wp2
    go_ret
    exact ⟨rfl, hb1⟩
  | true =>
  have hn' := hr rfl
  have h1 := h.later hb1
  clear hr
  go_wp2_with fail
  refine (clone12_any _ _ _ _ _ _ _ h1 hn').mono ?_
  rintro e w2 ⟨g, rfl, hb2, h2⟩
  go_wp2_with fail
  refine (to13_any _ _ _ _ _ _ _ h2 hn').mono ?_
  rintro e w3 ⟨g3, rfl, hb3, h3⟩
  have h2' := h2.later hb3
  have hb03 : Below w'.heap.size w' w3 := hb1.trans ((hb2.mono hb1.size).trans (hb3.mono (Nat.le_trans hb1.size hb2.size)))
  clear h h1 h2 hb1 hb2 hb3
  rcases dims dim cn sa n T A with ⟨e1, e2, ho⟩ | ⟨r, hd1, ho⟩
  · unfold sSalesCount at e1
    unfold sSalesAmount at e2
    go_wp2_with fail
    refine (ho _ _ _ _ _ _ _ _ (h3.later (below3 _ _ _ _)) hn').mono ?_
    rintro e w4 ⟨rfl, hb4⟩
    have hc4 := bcell hb4
    have hz4 := hb4.size
    simp only [World.size_alloc] at hz4
    go_wp2_with fail
    refine (ho _ _ _ _ _ _ _ _ ((h3.later (below3 _ _ _ _)).later hb4) hn').mono ?_
    rintro e w5 ⟨rfl, hb5⟩
    have hb35 := (below3 _ _ _ _).trans ((hb4.mono (by simp only [World.size_alloc]; omega)).trans (hb5.mono (by omega)))
    obtain ⟨a2, c2, d0, d1, _⟩ := h2'.later hb35
    clear hc4 hb4 hb5 ho
    go_wp2
    go_ret
    exact ⟨rfl, hb03.trans (hb35.mono hb03.size)⟩
  · have hcase := reach_cases hd1
    have hlead := lead_zero T r n
    generalize hm : lead T r n = m at ho hlead
    cases m with
    | zero =>
      have ho' : BonusGives dim n T A cn sa 0 false := ho
      clear ho
      go_wp2_with fail
      refine (ho' _ _ _ _ _ _ _ _ (h3.later (below3 _ _ _ _)) hn').mono ?_
      rintro e w4 ⟨rfl, hb4⟩
      have hc4 := bcell hb4
      have hz4 := hb4.size
      simp only [World.size_alloc] at hz4
      go_wp2_with fail
      refine (ho' _ _ _ _ _ _ _ _ ((h3.later (below3 _ _ _ _)).later hb4) hn').mono ?_
      rintro e w5 ⟨rfl, hb5⟩
      have hb35 := (below3 _ _ _ _).trans ((hb4.mono (by simp only [World.size_alloc]; omega)).trans (hb5.mono (by omega)))
      obtain ⟨a2, c2, d0, d1, p2⟩ := h2'.later hb35
      simp only [Nat.zero_add] at d1
      have fin := hb03.trans (hb35.mono hb03.size)
      clear hc4 hb4 hb5 ho' hb35 hm hd1
      by_cases hn0 : 0 < n
      · obtain ⟨rb, ro, rfl, hc⟩ := p2.2 hn0
        have hT := hlead.1 (by simp) hn0
        have r0 := (hc 0 hn0).1
        simp only [Nat.zero_mul, Nat.add_zero] at r0
        have hd0 : decide ((0 : Int) < n) = true := by simpa using hn0
        clear hlead p2 hc
        rcases hcase with ⟨c1, rfl⟩ | ⟨c1, c2, rfl⟩
        all_goals
          go_wp2
          go_ret
          exact ⟨rfl, fin⟩
      · obtain rfl : n = 0 := by omega
        clear hlead p2
        rcases hcase with ⟨c1, rfl⟩ | ⟨c1, c2, rfl⟩
        all_goals
          go_wp2
          go_ret
          exact ⟨rfl, fin⟩
    | succ j =>
      have ho' : BonusGives dim n T A cn sa (A j) true := ho
      clear ho
      go_wp2_with fail
      refine (ho' _ _ _ _ _ _ _ _ (h3.later (below3 _ _ _ _)) hn').mono ?_
      rintro e w4 ⟨rfl, hb4⟩
      have hc4 := bcell hb4
      have hz4 := hb4.size
      simp only [World.size_alloc] at hz4
      go_wp2_with fail
      refine (ho' _ _ _ _ _ _ _ _ ((h3.later (below3 _ _ _ _)).later hb4) hn').mono ?_
      rintro e w5 ⟨rfl, hb5⟩
      have hb35 := (below3 _ _ _ _).trans ((hb4.mono (by simp only [World.size_alloc]; omega)).trans (hb5.mono (by omega)))
      obtain ⟨a2, c2, d0, d1, p2⟩ := h2'.later hb35
      simp only [Nat.zero_add] at d1
      have fin := hb03.trans (hb35.mono hb03.size)
      obtain ⟨hj, hT0, hTj⟩ := hlead.2 j rfl
      clear hc4 hb4 hb5 ho' hb35 hm hd1 hlead
      obtain ⟨rb, ro, rfl, hc⟩ := p2.2 (by omega)
      have r0 := (hc 0 (by omega)).1
      simp only [Nat.zero_mul, Nat.add_zero] at r0
      have hn0 : (0 : Int) < n := by omega
      have hd0 : decide ((0 : Int) < n) = true := by simpa using hn0
      have HC : Hid (∀ i, i < n → w5.cell? ⟨rb, ro + i * 2, none⟩ = some (.int .i64 (T i)) ∧ w5.cell? ⟨rb, ro + i * 2 + 1, none⟩ = some (.int .i64 (A i))) := hc
      clear p2 hc
      rcases hcase with ⟨c1, rfl⟩ | ⟨c1, c2, rfl⟩
      · go_wp2
        go_loop [27] (fun i => ∃ k : Nat, k ≤ j ∧ i = .int .i64 k) (fun i => n - (intOf i).toNat)
        case atStart => exact ⟨0, Nat.zero_le _, rfl⟩
        case round =>
          obtain ⟨k, hk, rfl⟩ := hrel
          have hkn : (k : Int) < n := by omega
          have q0 := (HC.out k (by omega)).1
          have q1 := (HC.out k (by omega)).2
          by_cases ht : T k ≤ cn
          · have hdt : decide (T k ≤ cn) = true := by simpa using ht
            by_cases he : A k = A j
            · have hbe : (A k == A j) = true := by simpa using he
              clear he
              go_wp2
              go_ret
              exact ⟨rfl, fin⟩
            · have hbe : (A k == A j) = false := by simpa using he
              have hkj : k < j := by
                rcases Nat.lt_or_eq_of_le hk with h | h
                · exact h
                · exact absurd (by rw [h]) he
              clear he
              go_wp2
              go_round
              case rel => exact ⟨k + 1, by omega, by go_num⟩
              case measure => simp [intOf]; omega
          · have hdt : decide (T k ≤ cn) = false := by simpa using ht
            have hkj : k < j := by
              rcases Nat.lt_or_eq_of_le hk with h | h
              · exact h
              · exact absurd (by rw [h]; exact hTj) ht
            go_wp2
            go_round
            case rel => exact ⟨k + 1, by omega, by go_num⟩
            case measure => simp [intOf]; omega
      · go_wp2
        go_loop [27] (fun i => ∃ k : Nat, k ≤ j ∧ i = .int .i64 k) (fun i => n - (intOf i).toNat)
        case atStart => exact ⟨0, Nat.zero_le _, rfl⟩
        case round =>
          obtain ⟨k, hk, rfl⟩ := hrel
          have hkn : (k : Int) < n := by omega
          have q0 := (HC.out k (by omega)).1
          have q1 := (HC.out k (by omega)).2
          by_cases ht : T k ≤ sa
          · have hdt : decide (T k ≤ sa) = true := by simpa using ht
            by_cases he : A k = A j
            · have hbe : (A k == A j) = true := by simpa using he
              clear he
              go_wp2
              go_ret
              exact ⟨rfl, fin⟩
            · have hbe : (A k == A j) = false := by simpa using he
              have hkj : k < j := by
                rcases Nat.lt_or_eq_of_le hk with h | h
                · exact h
                · exact absurd (by rw [h]) he
              clear he
              go_wp2
              go_round
              case rel => exact ⟨k + 1, by omega, by go_num⟩
              case measure => simp [intOf]; omega
          · have hdt : decide (T k ≤ sa) = false := by simpa using ht
            have hkj : k < j := by
              rcases Nat.lt_or_eq_of_le hk with h | h
              · exact h
              · exact absurd (by rw [h]; exact hTj) ht
            go_wp2
            go_round
            case rel => exact ⟨k + 1, by omega, by go_num⟩
            case measure => simp [intOf]; omega
end Go.Proofs.Qxb6603944a
