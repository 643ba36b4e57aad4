/-
  FnDueForceNormalIdempotent: the walks.
-/
import Derived.Test.Qxb6603944aRule
namespace Go.Proofs.Qxb6603944a
open Go.RowKit
set_option linter.unusedVariables false

theorem TierP.later {w w' : World} {p : Option Addr} (h : TierP w p) (hb : Below w.heap.size w w') : TierP w' p := by
  rcases h with h | ⟨b, o, dim, n, T, A, h1, h2, h3, h4⟩
  · exact .inl h
  · exact .inr ⟨b, o, dim, n, T, A, h1, h2.later hb, h3, h4⟩
theorem dueOn_pf {tr : ByteArray} {fe se : Bool} (h : pfOn tr fe = true) : dueOn tr fe se = true := by simp [dueOn, h]
theorem dueAmt_pf {tr : ByteArray} {th fa sa : Int} {fe se : Bool} (h : pfOn tr fe = true) : dueAmt tr th fa sa fe se = pfAmt tr th fa := by simp [dueAmt, h]
theorem dueOn_shop {tr : ByteArray} {fe : Bool} : dueOn tr fe true = true := by simp [dueOn]
theorem dueAmt_shop {tr : ByteArray} {th fa sa : Int} {fe : Bool} (h : pfOn tr fe = false) : dueAmt tr th fa sa fe true = sa := by simp [dueAmt, h]
theorem dueOn_no {tr : ByteArray} {fe : Bool} (h : pfOn tr fe = false) : dueOn tr fe false = false := by simp [dueOn, h]
theorem dueAmt_no {tr : ByteArray} {th fa sa : Int} {fe : Bool} (h : pfOn tr fe = false) : dueAmt tr th fa sa fe false = 0 := by simp [dueAmt, h]
theorem below2 (w : World) (x y : Obj) : Below w.heap.size w ((w.alloc x).alloc y) := ((Below.refl _ _).alloc (Nat.le_refl _) _).alloc (by simp) _

set_option maxRecDepth 100000 in
set_option maxHeartbeats 2000000 in
theorem law6_nil (paid se : Bool) (sa : Int) (w : World) :
    Calls Try.prog 6 #[.pointer none, .bool paid, .agg #[.bool se, .int .i64 sa]] w fun e w' => e = .returned (.bool true) ∧ Below w.heap.size w w' := by
  go_enter Try.func6, Try.ntmps6
  go_wp2_with fail
  refine (bytes23_nil _ _ _ _).mono ?_
  rintro e w1 ⟨⟨r, rfl, _⟩, hb1⟩
  have hbw1 : Below w.heap.size w w1 := ((Below.refl _ _).alloc (Nat.le_refl _) _).trans (hb1.mono (by simp))
  have hz1 := hb1.size
  simp only [World.size_alloc] at hz1
  have c0 : w1.cell? ⟨w.heap.size, 0, none⟩ = some (.bool se) := by rw [(bcells hb1).1 _ _ (by simp), World.cell?_alloc_at _ _ _ _ rfl]; rfl
  have c1 : w1.cell? ⟨w.heap.size, 1, none⟩ = some (.int .i64 sa) := by rw [(bcells hb1).1 _ _ (by simp), World.cell?_alloc_at _ _ _ _ rfl]; rfl
  clear hb1
  cases r with
  | false =>
    go_wp2
    go_ret
    exact ⟨rfl, hbw1⟩
  | true =>
  go_wp2_with fail
  refine (pfits18_nil _).mono ?_
  rintro e w2 ⟨⟨r, rfl, _⟩, hb2⟩
  have c0 := cell_later hb2 c0
  have c1 := cell_later hb2 c1
  have hz2 := hb2.size
  have hbw2 := hbw1.trans (hb2.mono hbw1.size)
  clear hb2
  cases r with
  | false =>
    go_wp2
    go_ret
    exact ⟨rfl, hbw2⟩
  | true =>
  go_wp2_with fail
  refine (clone19_nil _).mono ?_
  rintro e w3 ⟨rfl, rfl⟩
  go_wp2_with fail
  refine (to20_nil _).mono ?_
  rintro e w3 ⟨rfl, rfl⟩
  go_wp2_with fail
  refine (due21_none _ _ _ _ _ (.inl rfl)).mono ?_
  rintro e w4 ⟨rfl, hb4⟩
  have c0 := cell_later hb4 c0
  have c1 := cell_later hb4 c1
  have hz4 := hb4.size
  have hbw4 := hbw2.trans (hb4.mono hbw2.size)
  clear hb4
  cases paid <;> cases se
  all_goals
    go_wp2_with fail
    refine (due21_none _ _ _ _ _ (.inl rfl)).mono ?_
    rintro e w5 ⟨rfl, hb5⟩
    have hb45 : Below w4.heap.size w4 w5 := ((Below.refl _ _).alloc (Nat.le_refl _) _).trans (hb5.mono (by simp only [World.size_alloc]; omega))
    have hbw5 := hbw4.trans (hb45.mono hbw4.size)
    have d0 : w5.cell? ⟨w4.heap.size, 0, none⟩ = some (.bool false) := by rw [(bcells hb5).1 _ _ (by simp), World.cell?_alloc_at _ _ _ _ rfl]; rfl
    have d1 : w5.cell? ⟨w4.heap.size, 1, none⟩ = some (.int .i64 0) := by rw [(bcells hb5).1 _ _ (by simp), World.cell?_alloc_at _ _ _ _ rfl]; rfl
    have g0 := cell_later hb45 c0
    have hz5 := hb5.size
    simp only [World.size_alloc] at hz5
    have hw4 : w4.heap.size < w5.heap.size := by omega
    have hw0 : w.heap.size < w5.heap.size := by omega
    clear hb5
    go_wp2
    go_ret
    exact ⟨rfl, hbw5.alloc hbw5.size _⟩

set_option maxRecDepth 100000 in
set_option maxHeartbeats 2000000 in
theorem law6_paid_true (sa : Int) (w : World) (b o : Nat) (tr : ByteArray) (th am fa : Int) (fe : Bool) (p : Option Addr) (hR : RuleIn w b o tr th am fa fe p) (hP : TierP w p) (hs : tr.size ≤ maxLen) :
    Calls Try.prog 6 #[.pointer (some ⟨b, o, none⟩), .bool true, .agg #[.bool true, .int .i64 sa]] w fun e w' => e = .returned (.bool true) ∧ Below w.heap.size w w' := by
  go_enter Try.func6, Try.ntmps6
  go_wp2_with fail
  refine (bytes23_any _ _ _ _ _ _ _ _ _ _ _ _ (hR.later ((Below.refl _ _).alloc (Nat.le_refl _) _)) (hP.later ((Below.refl _ _).alloc (Nat.le_refl _) _)) hs).mono ?_
  rintro e w1 ⟨⟨r, rfl, _⟩, hb1⟩
  have hbw1 : Below w.heap.size w w1 := ((Below.refl _ _).alloc (Nat.le_refl _) _).trans (hb1.mono (by simp))
  have c0 : w1.cell? ⟨w.heap.size, 0, none⟩ = some (.bool true) := by rw [(bcells hb1).1 _ _ (by simp), World.cell?_alloc_at _ _ _ _ rfl]; rfl
  have c1 : w1.cell? ⟨w.heap.size, 1, none⟩ = some (.int .i64 sa) := by rw [(bcells hb1).1 _ _ (by simp), World.cell?_alloc_at _ _ _ _ rfl]; rfl
  clear hb1
  cases r with
  | false =>
    go_wp2
    go_ret
    exact ⟨rfl, hbw1⟩
  | true =>
  go_wp2_with fail
  refine (pfits18_any _ _ _ _ _ _ _ _ _ (hR.later hbw1) (hP.later hbw1) hs).mono ?_
  rintro e w2 ⟨⟨r, rfl, hq⟩, hb2⟩
  have hbw2 := hbw1.trans (hb2.mono hbw1.size)
  have c0 := cell_later hb2 c0
  have c1 := cell_later hb2 c1
  cases r with
  | false =>
    clear hq
    go_wp2
    go_ret
    exact ⟨rfl, hbw2⟩
  | true =>
  have hQ2 := (hq rfl).later hb2
  clear hq hb2
  go_wp2_with fail
  refine (clone19_any _ _ _ _ _ _ _ _ _ (hR.later hbw2) hQ2).mono ?_
  rintro e w3 ⟨g3, q3, rfl, hb3, hR3, hQ3⟩
  have hbw3 := hbw2.trans (hb3.mono hbw2.size)
  have c0 := cell_later hb3 c0
  have c1 := cell_later hb3 c1
  clear hb3 hQ2
  go_wp2_with fail
  refine (to20_any _ _ _ _ _ _ _ _ _ hR3 hQ3).mono ?_
  rintro e w4 ⟨g4, q4, rfl, hb4, hR4, hQ4⟩
  have hbw4 := hbw3.trans (hb4.mono hbw3.size)
  have c0 := cell_later hb4 c0
  have c1 := cell_later hb4 c1
  have hR3' := hR3.later hb4
  clear hb4 hQ3 hR3 hbw1 hbw2 hbw3 hR hP hQ4
  go_wp2_with fail
  refine (due21_none _ _ _ _ _ (.inr rfl)).mono ?_
  rintro e w5 ⟨rfl, hb5⟩
  have hbw5 := hbw4.trans (hb5.mono hbw4.size)
  have c0 := cell_later hb5 c0
  have c1 := cell_later hb5 c1
  have hR5 := hR4.later hb5
  clear hb5 hR4
  go_wp2_with fail
  refine (due21_some _ _ _ _ _ _ _ _ _ _ _ (hR5.later ((Below.refl _ _).alloc (Nat.le_refl _) _))).mono ?_
  rintro e w6 ⟨rfl, hb6⟩
  generalize dueOn tr fe false = on2
  generalize dueAmt tr th fa 0 fe false = am2
  have hz6 := hb6.size
  simp only [World.size_alloc] at hz6
  have d0 : w6.cell? ⟨w5.heap.size, 0, none⟩ = some (.bool false) := by rw [(bcells hb6).1 _ _ (by simp), World.cell?_alloc_at _ _ _ _ rfl]; rfl
  have d1 : w6.cell? ⟨w5.heap.size, 1, none⟩ = some (.int .i64 0) := by rw [(bcells hb6).1 _ _ (by simp), World.cell?_alloc_at _ _ _ _ rfl]; rfl
  have hw0 : w.heap.size < w5.heap.size := World.block_lt_of_cell? _ _ c0
  have hb56 : Below w5.heap.size w5 w6 := ((Below.refl _ _).alloc (Nat.le_refl _) _).trans (hb6.mono (by simp only [World.size_alloc]; omega))
  have g0 : w6.cell? ⟨w.heap.size, 0, none⟩ = some (.bool true) := cell_later hb56 c0
  have hbw6 := hbw5.trans (hb56.mono hbw5.size)
  have hz65 : w5.heap.size < w6.heap.size := by omega
  have hz60 : w.heap.size < w6.heap.size := by omega
  clear hb6 hR5 hR3' c0 c1
  go_wp2
  go_ret
  exact ⟨rfl, hbw6.alloc hbw6.size _⟩

set_option maxRecDepth 100000 in
set_option maxHeartbeats 2000000 in
theorem law6_paid_false (sa : Int) (w : World) (b o : Nat) (tr : ByteArray) (th am fa : Int) (fe : Bool) (p : Option Addr) (hR : RuleIn w b o tr th am fa fe p) (hP : TierP w p) (hs : tr.size ≤ maxLen) :
    Calls Try.prog 6 #[.pointer (some ⟨b, o, none⟩), .bool true, .agg #[.bool false, .int .i64 sa]] w fun e w' => e = .returned (.bool true) ∧ Below w.heap.size w w' := by
  go_enter Try.func6, Try.ntmps6
  go_wp2_with fail
  refine (bytes23_any _ _ _ _ _ _ _ _ _ _ _ _ (hR.later ((Below.refl _ _).alloc (Nat.le_refl _) _)) (hP.later ((Below.refl _ _).alloc (Nat.le_refl _) _)) hs).mono ?_
  rintro e w1 ⟨⟨r, rfl, _⟩, hb1⟩
  have hbw1 : Below w.heap.size w w1 := ((Below.refl _ _).alloc (Nat.le_refl _) _).trans (hb1.mono (by simp))
  have c0 : w1.cell? ⟨w.heap.size, 0, none⟩ = some (.bool false) := by rw [(bcells hb1).1 _ _ (by simp), World.cell?_alloc_at _ _ _ _ rfl]; rfl
  have c1 : w1.cell? ⟨w.heap.size, 1, none⟩ = some (.int .i64 sa) := by rw [(bcells hb1).1 _ _ (by simp), World.cell?_alloc_at _ _ _ _ rfl]; rfl
  clear hb1
  cases r with
  | false =>
    go_wp2
    go_ret
    exact ⟨rfl, hbw1⟩
  | true =>
  go_wp2_with fail
  refine (pfits18_any _ _ _ _ _ _ _ _ _ (hR.later hbw1) (hP.later hbw1) hs).mono ?_
  rintro e w2 ⟨⟨r, rfl, hq⟩, hb2⟩
  have hbw2 := hbw1.trans (hb2.mono hbw1.size)
  have c0 := cell_later hb2 c0
  have c1 := cell_later hb2 c1
  cases r with
  | false =>
    clear hq
    go_wp2
    go_ret
    exact ⟨rfl, hbw2⟩
  | true =>
  have hQ2 := (hq rfl).later hb2
  clear hq hb2
  go_wp2_with fail
  refine (clone19_any _ _ _ _ _ _ _ _ _ (hR.later hbw2) hQ2).mono ?_
  rintro e w3 ⟨g3, q3, rfl, hb3, hR3, hQ3⟩
  have hbw3 := hbw2.trans (hb3.mono hbw2.size)
  have c0 := cell_later hb3 c0
  have c1 := cell_later hb3 c1
  clear hb3 hQ2
  go_wp2_with fail
  refine (to20_any _ _ _ _ _ _ _ _ _ hR3 hQ3).mono ?_
  rintro e w4 ⟨g4, q4, rfl, hb4, hR4, hQ4⟩
  have hbw4 := hbw3.trans (hb4.mono hbw3.size)
  have c0 := cell_later hb4 c0
  have c1 := cell_later hb4 c1
  have hR3' := hR3.later hb4
  clear hb4 hQ3 hR3 hbw1 hbw2 hbw3 hR hP hQ4
  go_wp2_with fail
  refine (due21_none _ _ _ _ _ (.inr rfl)).mono ?_
  rintro e w5 ⟨rfl, hb5⟩
  have hbw5 := hbw4.trans (hb5.mono hbw4.size)
  have c0 := cell_later hb5 c0
  have c1 := cell_later hb5 c1
  have hR5 := hR4.later hb5
  clear hb5 hR4
  go_wp2_with fail
  refine (due21_some _ _ _ _ _ _ _ _ _ _ _ (hR5.later ((Below.refl _ _).alloc (Nat.le_refl _) _))).mono ?_
  rintro e w6 ⟨rfl, hb6⟩
  generalize dueOn tr fe false = on2
  generalize dueAmt tr th fa 0 fe false = am2
  have hz6 := hb6.size
  simp only [World.size_alloc] at hz6
  have d0 : w6.cell? ⟨w5.heap.size, 0, none⟩ = some (.bool false) := by rw [(bcells hb6).1 _ _ (by simp), World.cell?_alloc_at _ _ _ _ rfl]; rfl
  have d1 : w6.cell? ⟨w5.heap.size, 1, none⟩ = some (.int .i64 0) := by rw [(bcells hb6).1 _ _ (by simp), World.cell?_alloc_at _ _ _ _ rfl]; rfl
  have hw0 : w.heap.size < w5.heap.size := World.block_lt_of_cell? _ _ c0
  have hb56 : Below w5.heap.size w5 w6 := ((Below.refl _ _).alloc (Nat.le_refl _) _).trans (hb6.mono (by simp only [World.size_alloc]; omega))
  have g0 : w6.cell? ⟨w.heap.size, 0, none⟩ = some (.bool false) := cell_later hb56 c0
  have hbw6 := hbw5.trans (hb56.mono hbw5.size)
  have hz65 : w5.heap.size < w6.heap.size := by omega
  have hz60 : w.heap.size < w6.heap.size := by omega
  clear hb6 hR5 hR3' c0 c1
  go_wp2
  go_ret
  exact ⟨rfl, hbw6.alloc hbw6.size _⟩

set_option maxRecDepth 100000 in
set_option maxHeartbeats 2000000 in
theorem law6_pf_true (sa : Int) (w : World) (b o : Nat) (tr : ByteArray) (th am fa : Int) (fe : Bool) (p : Option Addr) (hR : RuleIn w b o tr th am fa fe p) (hP : TierP w p) (hs : tr.size ≤ maxLen) (hon : Hid (pfOn tr fe = true)) :
    Calls Try.prog 6 #[.pointer (some ⟨b, o, none⟩), .bool false, .agg #[.bool true, .int .i64 sa]] w fun e w' => e = .returned (.bool true) ∧ Below w.heap.size w w' := by
  go_enter Try.func6, Try.ntmps6
  go_wp2_with fail
  refine (bytes23_any _ _ _ _ _ _ _ _ _ _ _ _ (hR.later ((Below.refl _ _).alloc (Nat.le_refl _) _)) (hP.later ((Below.refl _ _).alloc (Nat.le_refl _) _)) hs).mono ?_
  rintro e w1 ⟨⟨r, rfl, _⟩, hb1⟩
  have hbw1 : Below w.heap.size w w1 := ((Below.refl _ _).alloc (Nat.le_refl _) _).trans (hb1.mono (by simp))
  have c0 : w1.cell? ⟨w.heap.size, 0, none⟩ = some (.bool true) := by rw [(bcells hb1).1 _ _ (by simp), World.cell?_alloc_at _ _ _ _ rfl]; rfl
  have c1 : w1.cell? ⟨w.heap.size, 1, none⟩ = some (.int .i64 sa) := by rw [(bcells hb1).1 _ _ (by simp), World.cell?_alloc_at _ _ _ _ rfl]; rfl
  clear hb1
  cases r with
  | false =>
    go_wp2
    go_ret
    exact ⟨rfl, hbw1⟩
  | true =>
  go_wp2_with fail
  refine (pfits18_any _ _ _ _ _ _ _ _ _ (hR.later hbw1) (hP.later hbw1) hs).mono ?_
  rintro e w2 ⟨⟨r, rfl, hq⟩, hb2⟩
  have hbw2 := hbw1.trans (hb2.mono hbw1.size)
  have c0 := cell_later hb2 c0
  have c1 := cell_later hb2 c1
  cases r with
  | false =>
    clear hq
    go_wp2
    go_ret
    exact ⟨rfl, hbw2⟩
  | true =>
  have hQ2 := (hq rfl).later hb2
  clear hq hb2
  go_wp2_with fail
  refine (clone19_any _ _ _ _ _ _ _ _ _ (hR.later hbw2) hQ2).mono ?_
  rintro e w3 ⟨g3, q3, rfl, hb3, hR3, hQ3⟩
  have hbw3 := hbw2.trans (hb3.mono hbw2.size)
  have c0 := cell_later hb3 c0
  have c1 := cell_later hb3 c1
  clear hb3 hQ2
  go_wp2_with fail
  refine (to20_any _ _ _ _ _ _ _ _ _ hR3 hQ3).mono ?_
  rintro e w4 ⟨g4, q4, rfl, hb4, hR4, hQ4⟩
  have hbw4 := hbw3.trans (hb4.mono hbw3.size)
  have c0 := cell_later hb4 c0
  have c1 := cell_later hb4 c1
  have hR3' := hR3.later hb4
  clear hb4 hQ3 hR3 hbw1 hbw2 hbw3 hR hP hQ4
  go_wp2_with fail
  refine (due21_some _ _ _ _ _ _ _ _ _ _ _ hR4).mono ?_
  rintro e w5 ⟨rfl, hb5⟩
  rw [dueOn_pf hon.out, dueAmt_pf hon.out]
  have hbw5 := hbw4.trans (hb5.mono hbw4.size)
  have c0 := cell_later hb5 c0
  have c1 := cell_later hb5 c1
  have hR5 := hR4.later hb5
  clear hb5 hR4
  go_wp2_with fail
  refine (due21_some _ _ _ _ _ _ _ _ _ _ _ (hR5.later ((Below.refl _ _).alloc (Nat.le_refl _) _))).mono ?_
  rintro e w6 ⟨rfl, hb6⟩
  rw [dueOn_pf hon.out, dueAmt_pf hon.out]
  have hz6 := hb6.size
  simp only [World.size_alloc] at hz6
  have d0 : w6.cell? ⟨w5.heap.size, 0, none⟩ = some (.bool true) := by rw [(bcells hb6).1 _ _ (by simp), World.cell?_alloc_at _ _ _ _ rfl]; rfl
  have d1 : w6.cell? ⟨w5.heap.size, 1, none⟩ = some (.int .i64 (pfAmt tr th fa)) := by rw [(bcells hb6).1 _ _ (by simp), World.cell?_alloc_at _ _ _ _ rfl]; rfl
  have hw0 : w.heap.size < w5.heap.size := World.block_lt_of_cell? _ _ c0
  have hb56 : Below w5.heap.size w5 w6 := ((Below.refl _ _).alloc (Nat.le_refl _) _).trans (hb6.mono (by simp only [World.size_alloc]; omega))
  have g0 : w6.cell? ⟨w.heap.size, 0, none⟩ = some (.bool true) := cell_later hb56 c0
  have hbw6 := hbw5.trans (hb56.mono hbw5.size)
  have hz65 : w5.heap.size < w6.heap.size := by omega
  have hz60 : w.heap.size < w6.heap.size := by omega
  clear hb6 hR5 hR3' c0 c1
  go_wp2
  go_ret
  exact ⟨rfl, hbw6.alloc hbw6.size _⟩

set_option maxRecDepth 100000 in
set_option maxHeartbeats 2000000 in
theorem law6_pf_false (sa : Int) (w : World) (b o : Nat) (tr : ByteArray) (th am fa : Int) (fe : Bool) (p : Option Addr) (hR : RuleIn w b o tr th am fa fe p) (hP : TierP w p) (hs : tr.size ≤ maxLen) (hon : Hid (pfOn tr fe = true)) :
    Calls Try.prog 6 #[.pointer (some ⟨b, o, none⟩), .bool false, .agg #[.bool false, .int .i64 sa]] w fun e w' => e = .returned (.bool true) ∧ Below w.heap.size w w' := by
  go_enter Try.func6, Try.ntmps6
  go_wp2_with fail
  refine (bytes23_any _ _ _ _ _ _ _ _ _ _ _ _ (hR.later ((Below.refl _ _).alloc (Nat.le_refl _) _)) (hP.later ((Below.refl _ _).alloc (Nat.le_refl _) _)) hs).mono ?_
  rintro e w1 ⟨⟨r, rfl, _⟩, hb1⟩
  have hbw1 : Below w.heap.size w w1 := ((Below.refl _ _).alloc (Nat.le_refl _) _).trans (hb1.mono (by simp))
  have c0 : w1.cell? ⟨w.heap.size, 0, none⟩ = some (.bool false) := by rw [(bcells hb1).1 _ _ (by simp), World.cell?_alloc_at _ _ _ _ rfl]; rfl
  have c1 : w1.cell? ⟨w.heap.size, 1, none⟩ = some (.int .i64 sa) := by rw [(bcells hb1).1 _ _ (by simp), World.cell?_alloc_at _ _ _ _ rfl]; rfl
  clear hb1
  cases r with
  | false =>
    go_wp2
    go_ret
    exact ⟨rfl, hbw1⟩
  | true =>
  go_wp2_with fail
  refine (pfits18_any _ _ _ _ _ _ _ _ _ (hR.later hbw1) (hP.later hbw1) hs).mono ?_
  rintro e w2 ⟨⟨r, rfl, hq⟩, hb2⟩
  have hbw2 := hbw1.trans (hb2.mono hbw1.size)
  have c0 := cell_later hb2 c0
  have c1 := cell_later hb2 c1
  cases r with
  | false =>
    clear hq
    go_wp2
    go_ret
    exact ⟨rfl, hbw2⟩
  | true =>
  have hQ2 := (hq rfl).later hb2
  clear hq hb2
  go_wp2_with fail
  refine (clone19_any _ _ _ _ _ _ _ _ _ (hR.later hbw2) hQ2).mono ?_
  rintro e w3 ⟨g3, q3, rfl, hb3, hR3, hQ3⟩
  have hbw3 := hbw2.trans (hb3.mono hbw2.size)
  have c0 := cell_later hb3 c0
  have c1 := cell_later hb3 c1
  clear hb3 hQ2
  go_wp2_with fail
  refine (to20_any _ _ _ _ _ _ _ _ _ hR3 hQ3).mono ?_
  rintro e w4 ⟨g4, q4, rfl, hb4, hR4, hQ4⟩
  have hbw4 := hbw3.trans (hb4.mono hbw3.size)
  have c0 := cell_later hb4 c0
  have c1 := cell_later hb4 c1
  have hR3' := hR3.later hb4
  clear hb4 hQ3 hR3 hbw1 hbw2 hbw3 hR hP hQ4
  go_wp2_with fail
  refine (due21_some _ _ _ _ _ _ _ _ _ _ _ hR4).mono ?_
  rintro e w5 ⟨rfl, hb5⟩
  rw [dueOn_pf hon.out, dueAmt_pf hon.out]
  have hbw5 := hbw4.trans (hb5.mono hbw4.size)
  have c0 := cell_later hb5 c0
  have c1 := cell_later hb5 c1
  have hR5 := hR4.later hb5
  clear hb5 hR4
  go_wp2_with fail
  refine (due21_some _ _ _ _ _ _ _ _ _ _ _ (hR5.later ((Below.refl _ _).alloc (Nat.le_refl _) _))).mono ?_
  rintro e w6 ⟨rfl, hb6⟩
  rw [dueOn_pf hon.out, dueAmt_pf hon.out]
  have hz6 := hb6.size
  simp only [World.size_alloc] at hz6
  have d0 : w6.cell? ⟨w5.heap.size, 0, none⟩ = some (.bool true) := by rw [(bcells hb6).1 _ _ (by simp), World.cell?_alloc_at _ _ _ _ rfl]; rfl
  have d1 : w6.cell? ⟨w5.heap.size, 1, none⟩ = some (.int .i64 (pfAmt tr th fa)) := by rw [(bcells hb6).1 _ _ (by simp), World.cell?_alloc_at _ _ _ _ rfl]; rfl
  have hw0 : w.heap.size < w5.heap.size := World.block_lt_of_cell? _ _ c0
  have hb56 : Below w5.heap.size w5 w6 := ((Below.refl _ _).alloc (Nat.le_refl _) _).trans (hb6.mono (by simp only [World.size_alloc]; omega))
  have g0 : w6.cell? ⟨w.heap.size, 0, none⟩ = some (.bool false) := cell_later hb56 c0
  have hbw6 := hbw5.trans (hb56.mono hbw5.size)
  have hz65 : w5.heap.size < w6.heap.size := by omega
  have hz60 : w.heap.size < w6.heap.size := by omega
  clear hb6 hR5 hR3' c0 c1
  go_wp2
  go_ret
  exact ⟨rfl, hbw6.alloc hbw6.size _⟩

set_option maxRecDepth 100000 in
set_option maxHeartbeats 2000000 in
theorem law6_shop (sa : Int) (w : World) (b o : Nat) (tr : ByteArray) (th am fa : Int) (fe : Bool) (p : Option Addr) (hR : RuleIn w b o tr th am fa fe p) (hP : TierP w p) (hs : tr.size ≤ maxLen) (hon : Hid (pfOn tr fe = false)) :
    Calls Try.prog 6 #[.pointer (some ⟨b, o, none⟩), .bool false, .agg #[.bool true, .int .i64 sa]] w fun e w' => e = .returned (.bool true) ∧ Below w.heap.size w w' := by
  go_enter Try.func6, Try.ntmps6
  go_wp2_with fail
  refine (bytes23_any _ _ _ _ _ _ _ _ _ _ _ _ (hR.later ((Below.refl _ _).alloc (Nat.le_refl _) _)) (hP.later ((Below.refl _ _).alloc (Nat.le_refl _) _)) hs).mono ?_
  rintro e w1 ⟨⟨r, rfl, _⟩, hb1⟩
  have hbw1 : Below w.heap.size w w1 := ((Below.refl _ _).alloc (Nat.le_refl _) _).trans (hb1.mono (by simp))
  have c0 : w1.cell? ⟨w.heap.size, 0, none⟩ = some (.bool true) := by rw [(bcells hb1).1 _ _ (by simp), World.cell?_alloc_at _ _ _ _ rfl]; rfl
  have c1 : w1.cell? ⟨w.heap.size, 1, none⟩ = some (.int .i64 sa) := by rw [(bcells hb1).1 _ _ (by simp), World.cell?_alloc_at _ _ _ _ rfl]; rfl
  clear hb1
  cases r with
  | false =>
    go_wp2
    go_ret
    exact ⟨rfl, hbw1⟩
  | true =>
  go_wp2_with fail
  refine (pfits18_any _ _ _ _ _ _ _ _ _ (hR.later hbw1) (hP.later hbw1) hs).mono ?_
  rintro e w2 ⟨⟨r, rfl, hq⟩, hb2⟩
  have hbw2 := hbw1.trans (hb2.mono hbw1.size)
  have c0 := cell_later hb2 c0
  have c1 := cell_later hb2 c1
  cases r with
  | false =>
    clear hq
    go_wp2
    go_ret
    exact ⟨rfl, hbw2⟩
  | true =>
  have hQ2 := (hq rfl).later hb2
  clear hq hb2
  go_wp2_with fail
  refine (clone19_any _ _ _ _ _ _ _ _ _ (hR.later hbw2) hQ2).mono ?_
  rintro e w3 ⟨g3, q3, rfl, hb3, hR3, hQ3⟩
  have hbw3 := hbw2.trans (hb3.mono hbw2.size)
  have c0 := cell_later hb3 c0
  have c1 := cell_later hb3 c1
  clear hb3 hQ2
  go_wp2_with fail
  refine (to20_any _ _ _ _ _ _ _ _ _ hR3 hQ3).mono ?_
  rintro e w4 ⟨g4, q4, rfl, hb4, hR4, hQ4⟩
  have hbw4 := hbw3.trans (hb4.mono hbw3.size)
  have c0 := cell_later hb4 c0
  have c1 := cell_later hb4 c1
  have hR3' := hR3.later hb4
  clear hb4 hQ3 hR3 hbw1 hbw2 hbw3 hR hP hQ4
  go_wp2_with fail
  refine (due21_some _ _ _ _ _ _ _ _ _ _ _ hR4).mono ?_
  rintro e w5 ⟨rfl, hb5⟩
  rw [dueOn_shop, dueAmt_shop hon.out]
  have hbw5 := hbw4.trans (hb5.mono hbw4.size)
  have c0 := cell_later hb5 c0
  have c1 := cell_later hb5 c1
  have hR5 := hR4.later hb5
  clear hb5 hR4
  go_wp2_with fail
  refine (due21_some _ _ _ _ _ _ _ _ _ _ _ (hR5.later ((Below.refl _ _).alloc (Nat.le_refl _) _))).mono ?_
  rintro e w6 ⟨rfl, hb6⟩
  rw [dueOn_shop, dueAmt_shop hon.out]
  have hz6 := hb6.size
  simp only [World.size_alloc] at hz6
  have d0 : w6.cell? ⟨w5.heap.size, 0, none⟩ = some (.bool true) := by rw [(bcells hb6).1 _ _ (by simp), World.cell?_alloc_at _ _ _ _ rfl]; rfl
  have d1 : w6.cell? ⟨w5.heap.size, 1, none⟩ = some (.int .i64 sa) := by rw [(bcells hb6).1 _ _ (by simp), World.cell?_alloc_at _ _ _ _ rfl]; rfl
  have hw0 : w.heap.size < w5.heap.size := World.block_lt_of_cell? _ _ c0
  have hb56 : Below w5.heap.size w5 w6 := ((Below.refl _ _).alloc (Nat.le_refl _) _).trans (hb6.mono (by simp only [World.size_alloc]; omega))
  have g0 : w6.cell? ⟨w.heap.size, 0, none⟩ = some (.bool true) := cell_later hb56 c0
  have hbw6 := hbw5.trans (hb56.mono hbw5.size)
  have hz65 : w5.heap.size < w6.heap.size := by omega
  have hz60 : w.heap.size < w6.heap.size := by omega
  clear hb6 hR5 hR3' c0 c1
  go_wp2
  go_ret
  exact ⟨rfl, hbw6.alloc hbw6.size _⟩

set_option maxRecDepth 100000 in
set_option maxHeartbeats 2000000 in
theorem law6_no (sa : Int) (w : World) (b o : Nat) (tr : ByteArray) (th am fa : Int) (fe : Bool) (p : Option Addr) (hR : RuleIn w b o tr th am fa fe p) (hP : TierP w p) (hs : tr.size ≤ maxLen) (hon : Hid (pfOn tr fe = false)) :
    Calls Try.prog 6 #[.pointer (some ⟨b, o, none⟩), .bool false, .agg #[.bool false, .int .i64 sa]] w fun e w' => e = .returned (.bool true) ∧ Below w.heap.size w w' := by
  go_enter Try.func6, Try.ntmps6
  go_wp2_with fail
  refine (bytes23_any _ _ _ _ _ _ _ _ _ _ _ _ (hR.later ((Below.refl _ _).alloc (Nat.le_refl _) _)) (hP.later ((Below.refl _ _).alloc (Nat.le_refl _) _)) hs).mono ?_
  rintro e w1 ⟨⟨r, rfl, _⟩, hb1⟩
  have hbw1 : Below w.heap.size w w1 := ((Below.refl _ _).alloc (Nat.le_refl _) _).trans (hb1.mono (by simp))
  have c0 : w1.cell? ⟨w.heap.size, 0, none⟩ = some (.bool false) := by rw [(bcells hb1).1 _ _ (by simp), World.cell?_alloc_at _ _ _ _ rfl]; rfl
  have c1 : w1.cell? ⟨w.heap.size, 1, none⟩ = some (.int .i64 sa) := by rw [(bcells hb1).1 _ _ (by simp), World.cell?_alloc_at _ _ _ _ rfl]; rfl
  clear hb1
  cases r with
  | false =>
    go_wp2
    go_ret
    exact ⟨rfl, hbw1⟩
  | true =>
  go_wp2_with fail
  refine (pfits18_any _ _ _ _ _ _ _ _ _ (hR.later hbw1) (hP.later hbw1) hs).mono ?_
  rintro e w2 ⟨⟨r, rfl, hq⟩, hb2⟩
  have hbw2 := hbw1.trans (hb2.mono hbw1.size)
  have c0 := cell_later hb2 c0
  have c1 := cell_later hb2 c1
  cases r with
  | false =>
    clear hq
    go_wp2
    go_ret
    exact ⟨rfl, hbw2⟩
  | true =>
  have hQ2 := (hq rfl).later hb2
  clear hq hb2
  go_wp2_with fail
  refine (clone19_any _ _ _ _ _ _ _ _ _ (hR.later hbw2) hQ2).mono ?_
  rintro e w3 ⟨g3, q3, rfl, hb3, hR3, hQ3⟩
  have hbw3 := hbw2.trans (hb3.mono hbw2.size)
  have c0 := cell_later hb3 c0
  have c1 := cell_later hb3 c1
  clear hb3 hQ2
  go_wp2_with fail
  refine (to20_any _ _ _ _ _ _ _ _ _ hR3 hQ3).mono ?_
  rintro e w4 ⟨g4, q4, rfl, hb4, hR4, hQ4⟩
  have hbw4 := hbw3.trans (hb4.mono hbw3.size)
  have c0 := cell_later hb4 c0
  have c1 := cell_later hb4 c1
  have hR3' := hR3.later hb4
  clear hb4 hQ3 hR3 hbw1 hbw2 hbw3 hR hP hQ4
  go_wp2_with fail
  refine (due21_some _ _ _ _ _ _ _ _ _ _ _ hR4).mono ?_
  rintro e w5 ⟨rfl, hb5⟩
  rw [dueOn_no hon.out, dueAmt_no hon.out]
  have hbw5 := hbw4.trans (hb5.mono hbw4.size)
  have c0 := cell_later hb5 c0
  have c1 := cell_later hb5 c1
  have hR5 := hR4.later hb5
  clear hb5 hR4
  go_wp2_with fail
  refine (due21_some _ _ _ _ _ _ _ _ _ _ _ (hR5.later ((Below.refl _ _).alloc (Nat.le_refl _) _))).mono ?_
  rintro e w6 ⟨rfl, hb6⟩
  rw [dueOn_no hon.out, dueAmt_no hon.out]
  have hz6 := hb6.size
  simp only [World.size_alloc] at hz6
  have d0 : w6.cell? ⟨w5.heap.size, 0, none⟩ = some (.bool false) := by rw [(bcells hb6).1 _ _ (by simp), World.cell?_alloc_at _ _ _ _ rfl]; rfl
  have d1 : w6.cell? ⟨w5.heap.size, 1, none⟩ = some (.int .i64 0) := by rw [(bcells hb6).1 _ _ (by simp), World.cell?_alloc_at _ _ _ _ rfl]; rfl
  have hw0 : w.heap.size < w5.heap.size := World.block_lt_of_cell? _ _ c0
  have hb56 : Below w5.heap.size w5 w6 := ((Below.refl _ _).alloc (Nat.le_refl _) _).trans (hb6.mono (by simp only [World.size_alloc]; omega))
  have g0 : w6.cell? ⟨w.heap.size, 0, none⟩ = some (.bool false) := cell_later hb56 c0
  have hbw6 := hbw5.trans (hb56.mono hbw5.size)
  have hz65 : w5.heap.size < w6.heap.size := by omega
  have hz60 : w.heap.size < w6.heap.size := by omega
  clear hb6 hR5 hR3' c0 c1
  go_wp2
  go_ret
  exact ⟨rfl, hbw6.alloc hbw6.size _⟩
end Go.Proofs.Qxb6603944a
