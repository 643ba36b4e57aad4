/-
  FnChainCreditsConserve: the walk.
-/
import Derived.Test.Qxb6603944aExactWalk
namespace Go.Proofs.Qxb6603944a
open Go.RowKit
set_option linter.unusedVariables false

/-- the sum modulo 2^64, as Go reckons it -/
def sumOver (Z : Nat → Int) (l : List Nat) : Int := l.foldl (fun s i => wrap64 (s + Z i)) 0
theorem sumOver_nil (Z : Nat → Int) : sumOver Z [] = 0 := rfl
theorem sumOver_snoc (Z : Nat → Int) (l : List Nat) (k : Nat) : sumOver Z (l ++ [k]) = wrap64 (sumOver Z l + Z k) := by simp [sumOver]
theorem wrap_fix (x : Int) : wrap64 (wrap64 x + 0) = wrap64 x := by unfold wrap64; omega
theorem sumOver_fix (Z : Nat → Int) (l : List Nat) : wrap64 (sumOver Z l + 0) = sumOver Z l := by
  rcases List.eq_nil_or_concat l with h | ⟨l', k, h⟩
  · subst h; rw [sumOver_nil]; unfold wrap64; omega
  · subst h; rw [List.concat_eq_append, sumOver_snoc, wrap_fix]
theorem sum_nz (Z : Nat → Int) (k : Nat) : sumOver Z (nz Z k) = sumOver Z (List.range k) := by
  induction k with
  | zero => rfl
  | succ k ih =>
    rw [List.range_succ, sumOver_snoc]
    cases h : (Z k == 0) with
    | true =>
      have h' : Z k = 0 := by simpa using h
      rw [nz_miss Z k h, ih, h', sumOver_fix]
    | false => rw [nz_hit Z k h, sumOver_snoc, ih]

/-- how many positions lie past the chain -/
def past (L : Nat) (l : List Nat) : Nat := (l.filter (fun i => decide (L ≤ i))).length
theorem past_nil (L : Nat) : past L [] = 0 := rfl
theorem past_yes (L : Nat) (l : List Nat) (k : Nat) (h : L ≤ k) : past L (l ++ [k]) = past L l + 1 := by simp [past, List.filter_append, h]
theorem past_no (L : Nat) (l : List Nat) (k : Nat) (h : ¬ L ≤ k) : past L (l ++ [k]) = past L l := by simp [past, List.filter_append, h]
theorem past_le (L : Nat) (l : List Nat) : past L l ≤ l.length := List.length_filter_le _ _

theorem take_snoc' {α : Type} (l : List α) (j : Nat) (h : j < l.length) : l.take (j + 1) = l.take j ++ [l[j]] := by
  rw [List.take_succ_eq_append_getElem h]

theorem nz_get_ne (Z : Nat → Int) (n j : Nat) (hj : j < (nz Z n).length) : (Z (nz Z n)[j] == 0) = false := by
  have h : ∀ i ∈ nz Z n, (Z i == 0) = false := by
    intro i hi
    unfold nz at hi
    rw [List.mem_filter] at hi
    simpa using hi.2
  exact h _ (List.getElem_mem hj)

set_option maxRecDepth 100000 in
set_option maxHeartbeats 1000000 in
theorem law8_any (w : World) (a b : Option Addr) (L c n d : Nat) (S : Nat → ByteArray) (Z : Nat → Int) (own above plat : ByteArray) (hS : StrRow w a L c S) (hZ : IntRow w b n d Z) (hm : n ≤ maxLen) (h2 : own.size ≤ maxLen) (h3 : above.size ≤ maxLen) (h4 : plat.size ≤ maxLen) :
    Calls Try.prog 8 #[.slice a L c, .slice b n d, .string own, .string above, .string plat] w fun e w' => e = .returned (.bool true) ∧ Below w.heap.size w w' := by
  go_enter Try.func8, Try.ntmps8
  go_wp2_with fail
  refine (bytes29_any w a b L c n d S _ _ _ hS hm h2 h3 h4).mono ?_
  rintro e w' ⟨⟨r, rfl, _⟩, rfl⟩
  cases r with
  | false =>
    go_wp2
    go_ret
    exact ⟨rfl, Below.refl _ _⟩
  | true =>
  go_wp2_with fail
  refine (fits25_any _ _ _ _ _ _ _ S _ _ _ hS).mono ?_
  rintro e w' ⟨⟨r, rfl, hr⟩, rfl⟩
  cases r with
  | false =>
    clear hr
    go_wp2
    go_ret
    exact ⟨rfl, Below.refl _ _⟩
  | true =>
  obtain ⟨hL, hn⟩ := hr rfl
  clear hr
  go_wp2_with fail
  refine (clone26_any _ _ _ _ S hS hL).mono ?_
  rintro e w1 ⟨a1, c1, rfl, hb1, hS1⟩
  go_wp2_with fail
  refine (clone27_any _ _ _ _ Z (hZ.later hb1) hn).mono ?_
  rintro e w2 ⟨b2, d2, rfl, hb2, hZ2⟩
  have hS2 : StrRow w2 a1 L c1 S := hS1.later hb2
  clear hS1
  go_wp2_with fail
  refine (credits28_any _ _ _ _ _ _ _ S Z _ _ _ hS2 hZ2 hL hn).mono ?_
  rintro e w3 ⟨rfl, hb3, hC3⟩
  have hZ3 : IntRow w3 b2 n d2 Z := hZ2.later hb3
  have hb03 : Below w'.heap.size w' w3 := hb1.trans ((hb2.mono hb1.size).trans (hb3.mono (Nat.le_trans hb1.size hb2.size)))
  generalize hB : w2.heap.size = B at hC3 hb3
  clear hB hS2 hZ2 hb1 hb2 hb3 hS hZ
  have hnn := nz_le Z n
  go_wp2
  go_loop [12, 14, 15] (fun s p i => ∃ k : Nat, k ≤ n ∧ i = .int .i64 k ∧ s = .int .i64 (sumOver Z (List.range k)) ∧ p = .int .i64 (past L (nz Z k))) (fun _ _ i => n - (intOf i).toNat)
  case atStart => exact ⟨0, Nat.zero_le _, rfl, rfl, rfl⟩
  case round =>
    obtain ⟨k, hk, rfl, rfl, rfl⟩ := hrel
    have hpl : past L (nz Z k) ≤ 65536 := by have := past_le L (nz Z k); have := nz_le Z k; omega
    by_cases hlt : k < n
    · obtain ⟨rb, ro, hbe, hzc⟩ := hZ3.2 (by omega)
      subst hbe
      have r0 := hzc k hlt
      clear hzc
      have es : sumOver Z (List.range (k + 1)) = wrap64 (sumOver Z (List.range k) + Z k) := by rw [List.range_succ, sumOver_snoc]
      have HS : Hid (sumOver Z (List.range (k + 1)) = wrap64 (sumOver Z (List.range k) + Z k)) := es
      clear es
      by_cases hz : (Z k == 0) = true
      · have hz' : (Z k != 0) = false := by simpa using hz
        go_wp2
        go_round
        case rel => exact ⟨k + 1, by omega, by go_num, by rw [HS.out], by rw [nz_miss Z k hz]⟩
        case measure => simp [intOf]; omega
      · have hz0' : (Z k == 0) = false := by simpa using hz
        have hz' : (Z k != 0) = true := by simpa using hz
        clear hz
        by_cases hkL : L ≤ k
        · go_wp2
          go_round
          case rel => exact ⟨k + 1, by omega, by go_num, by rw [HS.out], by rw [nz_hit Z k hz0', past_yes L _ k hkL]; go_num⟩
          case measure => simp [intOf]; omega
        · go_wp2
          go_round
          case rel => exact ⟨k + 1, by omega, by go_num, by rw [HS.out], by rw [nz_hit Z k hz0', past_no L _ k hkL]⟩
          case measure => simp [intOf]; omega
    · obtain rfl : k = n := by omega
      go_wp2
      go_loop [13, 16, 17] (fun s p i => ∃ j : Nat, j ≤ (nz Z k).length ∧ i = .int .i64 j ∧ s = .int .i64 (sumOver Z ((nz Z k).take j)) ∧ p = .int .i64 (past L ((nz Z k).take j))) (fun _ _ i => (nz Z k).length - (intOf i).toNat)
      case atStart => exact ⟨0, Nat.zero_le _, rfl, rfl, rfl⟩
      case round =>
        obtain ⟨j, hj, rfl, rfl, rfl⟩ := hrel
        have hpj : past L ((nz Z k).take j) ≤ 65536 := by
          have h1 := past_le L ((nz Z k).take j)
          have h2 := List.length_take_le j (nz Z k)
          omega
        by_cases hlt2 : j < (nz Z k).length
        · obtain ⟨q, q0, q1, q2, q3⟩ := hC3 j hlt2
          have hne := nz_get_ne Z k j hlt2
          have et := take_snoc' (nz Z k) j hlt2
          have HT : Hid ((nz Z k).take (j + 1) = (nz Z k).take j ++ [(nz Z k)[j]]) := et
          clear et
          generalize (nz Z k)[j] = p at q1 q2 q3 hne HT
          by_cases hpL : p < L
          · rw [if_pos hpL] at q3
            obtain ⟨x, rfl, hx⟩ := q3
            go_wp2
            go_round
            case rel => exact ⟨j + 1, by omega, by go_num, by rw [HT.out, sumOver_snoc], by rw [HT.out, past_no L _ p (by omega)]⟩
            case measure => simp [intOf]; omega
          · rw [if_neg hpL] at q3
            subst q3
            go_wp2
            go_round
            case rel => exact ⟨j + 1, by omega, by go_num, by rw [HT.out, sumOver_snoc], by rw [HT.out, past_yes L _ p (by omega)]; go_num⟩
            case measure => simp [intOf]; omega
        · have e1 : (nz Z k).take j = nz Z k := List.take_of_length_le (by omega)
          have e2 := sum_nz Z k
          rw [e1, e2]
          clear e1 e2
          go_wp2
          go_ret
          exact ⟨rfl, hb03⟩
end Go.Proofs.Qxb6603944a
