/-
  FnBonusExact: the walk.
-/
import Derived.Test.Qxb6603944aModel
namespace Go.Proofs.Qxb6603944a
open Go.RowKit
set_option linter.unusedVariables false

set_option maxRecDepth 100000 in
set_option maxHeartbeats 1000000 in
theorem law3_nil (s : ByteArray) (th am fa cn sa : Int) (fe : Bool) (w : World) (hs : s.size ≤ maxLen) :
    Calls Try.prog 3 #[.string s, .int .i64 th, .int .i64 am, .pointer none, .bool fe, .int .i64 fa, .int .i64 cn, .int .i64 sa] w fun e w' => e = .returned (.bool true) ∧ Below w.heap.size w w' := by
  go_enter Try.func3, Try.ntmps3
  go_wp2_with fail
  refine (bytes9_nil _ _ _ _ _ _ _ _ hs).mono ?_
  rintro e w' ⟨⟨r, rfl, _⟩, rfl⟩
  cases r with
  | false =>
    go_wp2
    go_ret
    exact ⟨rfl, Below.refl _ _⟩
  | true =>
  go_wp2_with fail
  refine (fits10_nil _ _ hs).mono ?_
  rintro e w' ⟨⟨r, rfl, _⟩, rfl⟩
  cases r with
  | false =>
    go_wp2
    go_ret
    exact ⟨rfl, Below.refl _ _⟩
  | true =>
  go_wp2_with fail
  refine (clone12_nil _).mono ?_
  rintro e w' ⟨rfl, rfl⟩
  go_wp2_with fail
  refine (to13_nil _).mono ?_
  rintro e w' ⟨rfl, rfl⟩
  go_wp2_with fail
  refine (bonus14_nil _ _ _ _ _ _ _ _).mono ?_
  rintro e w1 ⟨rfl, hb1⟩
  have hz1 := hb1.size
  simp only [World.size_alloc] at hz1
  go_wp2_with fail
  refine (model15_nil _ _ _ _).mono ?_
  rintro e w2 ⟨rfl, rfl⟩
  go_wp2
  go_ret
  exact ⟨rfl, ((Below.refl _ _).alloc (Nat.le_refl _) _).trans (hb1.mono (by simp only [World.size_alloc]; omega))⟩

set_option maxRecDepth 100000 in
set_option maxHeartbeats 1000000 in
theorem law3_ptr (s : ByteArray) (th am fa cn sa : Int) (fe : Bool) (w : World) (hs : s.size ≤ maxLen) (b o : Nat) (dim : ByteArray) (n : Nat) (T A : Nat → Int) (h : TiersIn w b o dim n T A) (hd : dim.size ≤ maxLen) (hn : n ≤ maxLen) :
    Calls Try.prog 3 #[.string s, .int .i64 th, .int .i64 am, .pointer (some ⟨b, o, none⟩), .bool fe, .int .i64 fa, .int .i64 cn, .int .i64 sa] w fun e w' => e = .returned (.bool true) ∧ Below w.heap.size w w' := by
  go_enter Try.func3, Try.ntmps3
  go_wp2_with fail
  refine (bytes9_ptr _ _ _ _ _ _ _ _ hs _ _ _ _ _ _ h hd hn).mono ?_
  rintro e w' ⟨⟨r, rfl, _⟩, rfl⟩
  cases r with
  | false =>
    go_wp2
    go_ret
    exact ⟨rfl, Below.refl _ _⟩
  | true =>
  go_wp2_with fail
  refine (fits10_ptr _ _ hs _ _ _ _ _ _ h hd hn).mono ?_
  rintro e w1 ⟨⟨r, rfl, hr⟩, m, hw1⟩
  have hb1 : Below w'.heap.size w' w1 := by rw [hw1]; exact below_drewN (Below.refl _ _) m
  clear hw1
  cases r with
  | false =>
    clear hr
    go_wp2
    go_ret
    exact ⟨rfl, hb1⟩
  | true =>
  have hn' := hr rfl
  have h1 := h.later hb1
  clear hr
  obtain ⟨a1, c1, d10, d11, p1⟩ := h1
  have h1 : TiersIn w1 b o dim n T A := ⟨a1, c1, d10, d11, p1⟩
  go_wp2_with fail
  refine (rise11_any _ _ _ _ _ _ p1 hn').mono ?_
  rintro e w2 ⟨⟨r, rfl, hris⟩, hb2⟩
  have hb02 : Below w'.heap.size w' w2 := hb1.trans (hb2.mono hb1.size)
  cases r with
  | false =>
    clear hris
    go_wp2
    go_ret
    exact ⟨rfl, hb02⟩
  | true =>
  have hri := hris rfl
  clear hris
  have h2 := h1.later hb2
  clear d10 d11 p1 h1 h hb1 hb2
  go_wp2_with fail
  refine (clone12_any _ _ _ _ _ _ _ h2 hn').mono ?_
  rintro e w3 ⟨g, rfl, hb3, h3⟩
  go_wp2_with fail
  refine (to13_any _ _ _ _ _ _ _ h3 hn').mono ?_
  rintro e w4 ⟨g4, rfl, hb4, h4⟩
  have h3' := h3.later hb4
  have hb04 : Below w'.heap.size w' w4 := hb02.trans ((hb3.mono hb02.size).trans (hb4.mono (Nat.le_trans hb02.size hb3.size)))
  clear h2 h3 hb02 hb3 hb4
  rcases dims dim cn sa n T A with ⟨e1, e2, ho⟩ | ⟨r, hd1, ho⟩
  · go_wp2_with fail
    refine (ho _ _ _ _ _ _ _ _ (h4.later ((Below.refl _ _).alloc (Nat.le_refl _) _)) hn').mono ?_
    rintro e w5 ⟨rfl, hb5⟩
    have hb45 := ((Below.refl _ _).alloc (Nat.le_refl _) _).trans (hb5.mono (by simp only [World.size_alloc]; omega))
    have h5 := h3'.later hb45
    have fin := hb04.trans (hb45.mono hb04.size)
    clear hb5 hb45 ho
    go_wp2_with fail
    refine (model15_other _ _ _ _ _ _ _ _ _ _ h5 e1 e2).mono ?_
    rintro e w6 ⟨rfl, rfl⟩
    go_wp2
    go_ret
    exact ⟨rfl, fin⟩
  · generalize hG : bAmt A (lead T r n) = G at ho
    generalize hD : bDue (lead T r n) = D at ho
    go_wp2_with fail
    refine (ho _ _ _ _ _ _ _ _ (h4.later ((Below.refl _ _).alloc (Nat.le_refl _) _)) hn').mono ?_
    rintro e w5 ⟨rfl, hb5⟩
    have hb45 := ((Below.refl _ _).alloc (Nat.le_refl _) _).trans (hb5.mono (by simp only [World.size_alloc]; omega))
    have h5 := h3'.later hb45
    have fin := hb04.trans (hb45.mono hb04.size)
    clear hb5 hb45 ho
    have HG : Hid (bAmt A (lead T r n) = G) := hG
    have HD : Hid (bDue (lead T r n) = D) := hD
    clear hG hD
    go_wp2_with fail
    refine (model15_reach _ _ _ _ r _ _ _ _ _ _ h5 hn' hd1 hri).mono ?_
    rintro e w6 ⟨rfl, rfl⟩
    rw [HG.out, HD.out]
    go_wp2
    go_ret
    exact ⟨rfl, fin⟩
end Go.Proofs.Qxb6603944a
