/-
  FnDueForcePrecedence: the walks.
-/
import Derived.Test.Qxb6603944aIdemWalk
import Derived.Laws.StructEq
namespace Go.Proofs.Qxb6603944a
open Go.RowKit
set_option linter.unusedVariables false
theorem equal34 (x y : Bool) (a b : Int) (w : World) : (Op.equalIn 10000 34 (.agg #[.bool x, .int .i64 a]) (.agg #[.bool y, .int .i64 b])).run Try.prog w = .ok (x == y && a == b) w := by
  have u3 := Try.underlying2
  have u4 := Try.underlying4
  have hS : Try.prog.underlying 34 = some (.struct (Try.prog.fieldsOf 34)) := by kernel_rfl
  have hp : Try.prog.stoodInHeld 34 = false := by kernel_rfl
  rw [show (10000 : Nat) = 9999 + 1 from rfl, run_equalIn_agg w 9999 34 _ _ hS hp]
  simp only [Program.fieldsOf, Try.underlying34]
  go_simp
  cases x <;> cases y <;> by_cases h2 : a = b <;> simp [h2]
theorem eql34 (x y : Bool) (a b : Int) (w : World) : (binOp .eql 34 (.agg #[.bool x, .int .i64 a]) (.agg #[.bool y, .int .i64 b])).run Try.prog w = .ok (.bool (x == y && a == b)) w := by
  rw [run_eql_struct, equal34]; rfl
theorem neq34 (x y : Bool) (a b : Int) (w : World) : (binOp .neq 34 (.agg #[.bool x, .int .i64 a]) (.agg #[.bool y, .int .i64 b])).run Try.prog w = .ok (.bool (!(x == y && a == b))) w := by
  rw [run_neq_struct, equal34]; rfl

/-- two cells at a block's head -/
def C2 (w : World) (b : Nat) (x y : Value) : Prop := w.cell? ⟨b, 0, none⟩ = some x ∧ w.cell? ⟨b, 1, none⟩ = some y
theorem C2.later {w w' : World} {b : Nat} {x y : Value} (h : C2 w b x y) (hb : Below w.heap.size w w') : C2 w' b x y := ⟨cell_later hb h.1, cell_later hb h.2⟩
theorem C2.lt {w : World} {b : Nat} {x y : Value} (h : C2 w b x y) : b < w.heap.size := World.block_lt_of_cell? _ _ h.1
theorem C2.new (w : World) (x y : Value) (t : TypeId) : C2 (w.alloc (.cells #[x, y] t)) w.heap.size x y := by
  refine ⟨?_, ?_⟩ <;> (rw [World.cell?_alloc_at _ _ _ _ rfl]; rfl)
theorem C2.new1 (w : World) (o : Obj) (x y : Value) (t : TypeId) : C2 ((w.alloc o).alloc (.cells #[x, y] t)) (w.heap.size + 1) x y := by
  refine ⟨?_, ?_⟩ <;> (rw [World.cell?_alloc_at _ _ _ _ (by simp)]; rfl)
theorem RuleIn.lt {w : World} {b o : Nat} {tr : ByteArray} {th am fa : Int} {fe : Bool} {p : Option Addr} (h : RuleIn w b o tr th am fa fe p) : b < w.heap.size := World.block_lt_of_cell? _ _ h.1
theorem below1 (w : World) (x : Obj) : Below w.heap.size w (w.alloc x) := (Below.refl _ _).alloc (Nat.le_refl _) _

set_option maxRecDepth 100000 in
set_option maxHeartbeats 2000000 in
theorem law5_paid_true (sa : Int) (w : World) (b o : Nat) (tr : ByteArray) (th am fa : Int) (fe : Bool) (p : Option Addr) (hR : RuleIn w b o tr th am fa fe p) (hP : TierP w p) (hs : tr.size ≤ maxLen) :
    Calls Try.prog 5 #[.pointer (some ⟨b, o, none⟩), .bool true, .agg #[.bool true, .int .i64 sa]] w fun e w' => e = .returned (.bool true) ∧ Below w.heap.size w w' := by
  have hE := eql34
  have hN := neq34
  go_enter Try.func5, Try.ntmps5
  go_wp2_with fail
  refine (bytes17_any _ _ _ _ _ _ _ _ _ _ _ _ (hR.later (below1 _ _)) (hP.later (below1 _ _)) hs).mono ?_
  rintro e w1 ⟨⟨r, rfl, _⟩, hb1⟩
  have hbw1 : Below w.heap.size w w1 := (below1 _ _).trans (hb1.mono (by simp))
  have cS : C2 w1 w.heap.size (.bool true) (.int .i64 sa) := (C2.new _ _ _ _).later hb1
  clear hb1
  cases r with
  | false =>
    go_wp2
    go_ret
    exact ⟨rfl, hbw1⟩
  | true =>
  go_wp2_with fail
  refine (pfits18_any _ _ _ _ _ _ _ _ _ (hR.later hbw1) (hP.later hbw1) hs).mono ?_
  rintro e w2 ⟨⟨r, rfl, hq⟩, hb2⟩
  have hbw2 := hbw1.trans (hb2.mono hbw1.size)
  have cS := cS.later hb2
  cases r with
  | false =>
    clear hq
    go_wp2
    go_ret
    exact ⟨rfl, hbw2⟩
  | true =>
  have hQ2 := (hq rfl).later hb2
  clear hq hb2
  go_wp2_with fail
  refine (clone19_any _ _ _ _ _ _ _ _ _ (hR.later hbw2) hQ2).mono ?_
  rintro e w3 ⟨g3, q3, rfl, hb3, hR3, hQ3⟩
  have hbw3 := hbw2.trans (hb3.mono hbw2.size)
  have cS := cS.later hb3
  clear hb3 hQ2
  go_wp2_with fail
  refine (to20_any _ _ _ _ _ _ _ _ _ hR3 hQ3).mono ?_
  rintro e w4 ⟨g4, q4, rfl, hb4, hR4, hQ4⟩
  have hbw4 := hbw3.trans (hb4.mono hbw3.size)
  have cS := cS.later hb4
  have hR3 := hR3.later hb4
  have hS0 := cS.1
  have hS1 := cS.2
  have hSl := cS.lt
  clear hb4 hQ3 hbw1 hbw2 hbw3 hR hP hQ4
  go_wp2_with fail
  refine (due21_none _ _ _ _ _ (.inr rfl)).mono ?_
  rintro e w5 ⟨rfl, hb5⟩
  have hb45 : Below w4.heap.size w4 w5 := (below2 _ _ _).trans (hb5.mono (by simp only [World.size_alloc]; omega))
  have cs : C2 w5 w4.heap.size (.bool true) (.int .i64 sa) := ((C2.new _ _ _ _).later (below1 _ _)).later hb5
  have cz : C2 w5 (w4.heap.size + 1) (.bool false) (.int .i64 0) := (C2.new1 _ _ _ _ _).later hb5
  have cS := cS.later hb45
  have hR3 := hR3.later hb45
  have hR4 := hR4.later hb45
  have hbw5 := hbw4.trans (hb45.mono hbw4.size)
  clear hb5 hb45 hS0 hS1 hSl hbw4
  obtain ⟨r0, r1, r2, r3, r4, r5⟩ := hR3
  obtain ⟨s0, s1, s2, s3, s4, s5⟩ := hR4
  obtain ⟨cs0, cs1⟩ := cs
  obtain ⟨cz0, cz1⟩ := cz
  obtain ⟨cS0, cS1⟩ := cS
  have l3 := World.block_lt_of_cell? _ _ r0
  have l4 := World.block_lt_of_cell? _ _ s0
  have ls := World.block_lt_of_cell? _ _ cs0
  have lz := World.block_lt_of_cell? _ _ cz0
  have lS := World.block_lt_of_cell? _ _ cS0
  simp only at l3 l4 ls lz lS
  simp only [Nat.zero_add] at r1 r2 r3 r4 r5 s1 s2 s3 s4 s5
  go_wp2
  go_ret
  exact ⟨rfl, hbw5.alloc hbw5.size _⟩

set_option maxRecDepth 100000 in
set_option maxHeartbeats 2000000 in
theorem law5_paid_false (sa : Int) (w : World) (b o : Nat) (tr : ByteArray) (th am fa : Int) (fe : Bool) (p : Option Addr) (hR : RuleIn w b o tr th am fa fe p) (hP : TierP w p) (hs : tr.size ≤ maxLen) :
    Calls Try.prog 5 #[.pointer (some ⟨b, o, none⟩), .bool true, .agg #[.bool false, .int .i64 sa]] w fun e w' => e = .returned (.bool true) ∧ Below w.heap.size w w' := by
  have hE := eql34
  have hN := neq34
  go_enter Try.func5, Try.ntmps5
  go_wp2_with fail
  refine (bytes17_any _ _ _ _ _ _ _ _ _ _ _ _ (hR.later (below1 _ _)) (hP.later (below1 _ _)) hs).mono ?_
  rintro e w1 ⟨⟨r, rfl, _⟩, hb1⟩
  have hbw1 : Below w.heap.size w w1 := (below1 _ _).trans (hb1.mono (by simp))
  have cS : C2 w1 w.heap.size (.bool false) (.int .i64 sa) := (C2.new _ _ _ _).later hb1
  clear hb1
  cases r with
  | false =>
    go_wp2
    go_ret
    exact ⟨rfl, hbw1⟩
  | true =>
  go_wp2_with fail
  refine (pfits18_any _ _ _ _ _ _ _ _ _ (hR.later hbw1) (hP.later hbw1) hs).mono ?_
  rintro e w2 ⟨⟨r, rfl, hq⟩, hb2⟩
  have hbw2 := hbw1.trans (hb2.mono hbw1.size)
  have cS := cS.later hb2
  cases r with
  | false =>
    clear hq
    go_wp2
    go_ret
    exact ⟨rfl, hbw2⟩
  | true =>
  have hQ2 := (hq rfl).later hb2
  clear hq hb2
  go_wp2_with fail
  refine (clone19_any _ _ _ _ _ _ _ _ _ (hR.later hbw2) hQ2).mono ?_
  rintro e w3 ⟨g3, q3, rfl, hb3, hR3, hQ3⟩
  have hbw3 := hbw2.trans (hb3.mono hbw2.size)
  have cS := cS.later hb3
  clear hb3 hQ2
  go_wp2_with fail
  refine (to20_any _ _ _ _ _ _ _ _ _ hR3 hQ3).mono ?_
  rintro e w4 ⟨g4, q4, rfl, hb4, hR4, hQ4⟩
  have hbw4 := hbw3.trans (hb4.mono hbw3.size)
  have cS := cS.later hb4
  have hR3 := hR3.later hb4
  have hS0 := cS.1
  have hS1 := cS.2
  have hSl := cS.lt
  clear hb4 hQ3 hbw1 hbw2 hbw3 hR hP hQ4
  go_wp2_with fail
  refine (due21_none _ _ _ _ _ (.inr rfl)).mono ?_
  rintro e w5 ⟨rfl, hb5⟩
  have hb45 : Below w4.heap.size w4 w5 := (below2 _ _ _).trans (hb5.mono (by simp only [World.size_alloc]; omega))
  have cs : C2 w5 w4.heap.size (.bool false) (.int .i64 sa) := ((C2.new _ _ _ _).later (below1 _ _)).later hb5
  have cz : C2 w5 (w4.heap.size + 1) (.bool false) (.int .i64 0) := (C2.new1 _ _ _ _ _).later hb5
  have cS := cS.later hb45
  have hR3 := hR3.later hb45
  have hR4 := hR4.later hb45
  have hbw5 := hbw4.trans (hb45.mono hbw4.size)
  clear hb5 hb45 hS0 hS1 hSl hbw4
  obtain ⟨r0, r1, r2, r3, r4, r5⟩ := hR3
  obtain ⟨s0, s1, s2, s3, s4, s5⟩ := hR4
  obtain ⟨cs0, cs1⟩ := cs
  obtain ⟨cz0, cz1⟩ := cz
  obtain ⟨cS0, cS1⟩ := cS
  have l3 := World.block_lt_of_cell? _ _ r0
  have l4 := World.block_lt_of_cell? _ _ s0
  have ls := World.block_lt_of_cell? _ _ cs0
  have lz := World.block_lt_of_cell? _ _ cz0
  have lS := World.block_lt_of_cell? _ _ cS0
  simp only at l3 l4 ls lz lS
  simp only [Nat.zero_add] at r1 r2 r3 r4 r5 s1 s2 s3 s4 s5
  go_wp2
  go_ret
  exact ⟨rfl, hbw5.alloc hbw5.size _⟩

set_option maxRecDepth 100000 in
set_option maxHeartbeats 2000000 in
theorem law5_single_true (sa : Int) (w : World) (b o : Nat) (tr : ByteArray) (th am fa : Int) (fe : Bool) (p : Option Addr) (hR : RuleIn w b o tr th am fa fe p) (hP : TierP w p) (hs : tr.size ≤ maxLen) (hsg : (tr.toList == [115, 105, 110, 103, 108, 101, 95, 114, 101, 99, 104, 97, 114, 103, 101]) = true) (hon : Hid (pfOn tr fe = true)) (ham : Hid (pfAmt tr th fa = th)) :
    Calls Try.prog 5 #[.pointer (some ⟨b, o, none⟩), .bool false, .agg #[.bool true, .int .i64 sa]] w fun e w' => e = .returned (.bool true) ∧ Below w.heap.size w w' := by
  have hE := eql34
  have hN := neq34
  go_enter Try.func5, Try.ntmps5
  go_wp2_with fail
  refine (bytes17_any _ _ _ _ _ _ _ _ _ _ _ _ (hR.later (below1 _ _)) (hP.later (below1 _ _)) hs).mono ?_
  rintro e w1 ⟨⟨r, rfl, _⟩, hb1⟩
  have hbw1 : Below w.heap.size w w1 := (below1 _ _).trans (hb1.mono (by simp))
  have cS : C2 w1 w.heap.size (.bool true) (.int .i64 sa) := (C2.new _ _ _ _).later hb1
  clear hb1
  cases r with
  | false =>
    go_wp2
    go_ret
    exact ⟨rfl, hbw1⟩
  | true =>
  go_wp2_with fail
  refine (pfits18_any _ _ _ _ _ _ _ _ _ (hR.later hbw1) (hP.later hbw1) hs).mono ?_
  rintro e w2 ⟨⟨r, rfl, hq⟩, hb2⟩
  have hbw2 := hbw1.trans (hb2.mono hbw1.size)
  have cS := cS.later hb2
  cases r with
  | false =>
    clear hq
    go_wp2
    go_ret
    exact ⟨rfl, hbw2⟩
  | true =>
  have hQ2 := (hq rfl).later hb2
  clear hq hb2
  go_wp2_with fail
  refine (clone19_any _ _ _ _ _ _ _ _ _ (hR.later hbw2) hQ2).mono ?_
  rintro e w3 ⟨g3, q3, rfl, hb3, hR3, hQ3⟩
  have hbw3 := hbw2.trans (hb3.mono hbw2.size)
  have cS := cS.later hb3
  clear hb3 hQ2
  go_wp2_with fail
  refine (to20_any _ _ _ _ _ _ _ _ _ hR3 hQ3).mono ?_
  rintro e w4 ⟨g4, q4, rfl, hb4, hR4, hQ4⟩
  have hbw4 := hbw3.trans (hb4.mono hbw3.size)
  have cS := cS.later hb4
  have hR3 := hR3.later hb4
  have hS0 := cS.1
  have hS1 := cS.2
  have hSl := cS.lt
  clear hb4 hQ3 hbw1 hbw2 hbw3 hR hP hQ4
  go_wp2_with fail
  refine (due21_some _ _ _ _ _ _ _ _ _ _ _ (hR4.later (below2 _ _ _))).mono ?_
  rintro e w5 ⟨rfl, hb5⟩
  rw [dueOn_pf hon.out, dueAmt_pf hon.out, ham.out]
  have hb45 : Below w4.heap.size w4 w5 := (below2 _ _ _).trans (hb5.mono (by simp only [World.size_alloc]; omega))
  have cs : C2 w5 w4.heap.size (.bool true) (.int .i64 sa) := ((C2.new _ _ _ _).later (below1 _ _)).later hb5
  have cz : C2 w5 (w4.heap.size + 1) (.bool false) (.int .i64 0) := (C2.new1 _ _ _ _ _).later hb5
  have cS := cS.later hb45
  have hR3 := hR3.later hb45
  have hR4 := hR4.later hb45
  have hbw5 := hbw4.trans (hb45.mono hbw4.size)
  clear hb5 hb45 hS0 hS1 hSl hbw4
  obtain ⟨r0, r1, r2, r3, r4, r5⟩ := hR3
  obtain ⟨s0, s1, s2, s3, s4, s5⟩ := hR4
  obtain ⟨cs0, cs1⟩ := cs
  obtain ⟨cz0, cz1⟩ := cz
  obtain ⟨cS0, cS1⟩ := cS
  have l3 := World.block_lt_of_cell? _ _ r0
  have l4 := World.block_lt_of_cell? _ _ s0
  have ls := World.block_lt_of_cell? _ _ cs0
  have lz := World.block_lt_of_cell? _ _ cz0
  have lS := World.block_lt_of_cell? _ _ cS0
  simp only at l3 l4 ls lz lS
  simp only [Nat.zero_add] at r1 r2 r3 r4 r5 s1 s2 s3 s4 s5
  go_wp2_with fail
  go_quiet (fail)
  go_wp2_with fail
  refine (pf22_any _ _ _ _ _ _ _).mono ?_
  rintro e w6 ⟨rfl, hb6⟩
  rw [hon.out, ham.out]
  have hbx : Below w5.heap.size w5 w6 := (below_drewN (below1 _ _) _).trans (hb6.mono (by simp [go_sem]))
  have cg : C2 w6 w5.heap.size (.bool true) (.int .i64 th) := ((C2.new _ _ _ _).later (below_drewN (Below.refl _ _) _)).later hb6
  have hbw6 := hbw5.trans (hbx.mono hbw5.size)
  have cs0 := cell_later hbx cs0
  have cs1 := cell_later hbx cs1
  have cz0 := cell_later hbx cz0
  have cz1 := cell_later hbx cz1
  have cS0 := cell_later hbx cS0
  have hR4 : RuleIn w6 g4 0 tr th am fa fe q4 := (RuleIn.later ⟨s0, s1, s2, s3, s4, s5⟩ hbx)
  obtain ⟨cg0, cg1⟩ := cg
  have ls := World.block_lt_of_cell? _ _ cs0
  have lz := World.block_lt_of_cell? _ _ cz0
  have lS := World.block_lt_of_cell? _ _ cS0
  have lg := World.block_lt_of_cell? _ _ cg0
  simp only at ls lz lS lg
  clear hb6 hbx s0 s1 s2 s3 s4 s5 r0 r1 r2 r3 r4 r5
  go_wp2_with fail
  refine (due21_some _ _ _ _ _ _ _ _ _ _ _ (hR4.later (below1 _ _))).mono ?_
  rintro e w7 ⟨rfl, hb7⟩
  rw [dueOn_pf hon.out, dueAmt_pf hon.out, ham.out]
  have hb67 : Below w6.heap.size w6 w7 := (below1 _ _).trans (hb7.mono (by simp only [World.size_alloc]; omega))
  have hbw7 := hbw6.trans (hb67.mono hbw6.size)
  have cg0 := cell_later hb67 cg0
  have cg1 := cell_later hb67 cg1
  have lg := World.block_lt_of_cell? _ _ cg0
  simp only at lg
  clear hb7 hb67
  go_wp2
  go_ret
  exact ⟨rfl, hbw7.alloc hbw7.size _⟩

set_option maxRecDepth 100000 in
set_option maxHeartbeats 2000000 in
theorem law5_single_false (sa : Int) (w : World) (b o : Nat) (tr : ByteArray) (th am fa : Int) (fe : Bool) (p : Option Addr) (hR : RuleIn w b o tr th am fa fe p) (hP : TierP w p) (hs : tr.size ≤ maxLen) (hsg : (tr.toList == [115, 105, 110, 103, 108, 101, 95, 114, 101, 99, 104, 97, 114, 103, 101]) = true) (hon : Hid (pfOn tr fe = true)) (ham : Hid (pfAmt tr th fa = th)) :
    Calls Try.prog 5 #[.pointer (some ⟨b, o, none⟩), .bool false, .agg #[.bool false, .int .i64 sa]] w fun e w' => e = .returned (.bool true) ∧ Below w.heap.size w w' := by
  have hE := eql34
  have hN := neq34
  go_enter Try.func5, Try.ntmps5
  go_wp2_with fail
  refine (bytes17_any _ _ _ _ _ _ _ _ _ _ _ _ (hR.later (below1 _ _)) (hP.later (below1 _ _)) hs).mono ?_
  rintro e w1 ⟨⟨r, rfl, _⟩, hb1⟩
  have hbw1 : Below w.heap.size w w1 := (below1 _ _).trans (hb1.mono (by simp))
  have cS : C2 w1 w.heap.size (.bool false) (.int .i64 sa) := (C2.new _ _ _ _).later hb1
  clear hb1
  cases r with
  | false =>
    go_wp2
    go_ret
    exact ⟨rfl, hbw1⟩
  | true =>
  go_wp2_with fail
  refine (pfits18_any _ _ _ _ _ _ _ _ _ (hR.later hbw1) (hP.later hbw1) hs).mono ?_
  rintro e w2 ⟨⟨r, rfl, hq⟩, hb2⟩
  have hbw2 := hbw1.trans (hb2.mono hbw1.size)
  have cS := cS.later hb2
  cases r with
  | false =>
    clear hq
    go_wp2
    go_ret
    exact ⟨rfl, hbw2⟩
  | true =>
  have hQ2 := (hq rfl).later hb2
  clear hq hb2
  go_wp2_with fail
  refine (clone19_any _ _ _ _ _ _ _ _ _ (hR.later hbw2) hQ2).mono ?_
  rintro e w3 ⟨g3, q3, rfl, hb3, hR3, hQ3⟩
  have hbw3 := hbw2.trans (hb3.mono hbw2.size)
  have cS := cS.later hb3
  clear hb3 hQ2
  go_wp2_with fail
  refine (to20_any _ _ _ _ _ _ _ _ _ hR3 hQ3).mono ?_
  rintro e w4 ⟨g4, q4, rfl, hb4, hR4, hQ4⟩
  have hbw4 := hbw3.trans (hb4.mono hbw3.size)
  have cS := cS.later hb4
  have hR3 := hR3.later hb4
  have hS0 := cS.1
  have hS1 := cS.2
  have hSl := cS.lt
  clear hb4 hQ3 hbw1 hbw2 hbw3 hR hP hQ4
  go_wp2_with fail
  refine (due21_some _ _ _ _ _ _ _ _ _ _ _ (hR4.later (below2 _ _ _))).mono ?_
  rintro e w5 ⟨rfl, hb5⟩
  rw [dueOn_pf hon.out, dueAmt_pf hon.out, ham.out]
  have hb45 : Below w4.heap.size w4 w5 := (below2 _ _ _).trans (hb5.mono (by simp only [World.size_alloc]; omega))
  have cs : C2 w5 w4.heap.size (.bool false) (.int .i64 sa) := ((C2.new _ _ _ _).later (below1 _ _)).later hb5
  have cz : C2 w5 (w4.heap.size + 1) (.bool false) (.int .i64 0) := (C2.new1 _ _ _ _ _).later hb5
  have cS := cS.later hb45
  have hR3 := hR3.later hb45
  have hR4 := hR4.later hb45
  have hbw5 := hbw4.trans (hb45.mono hbw4.size)
  clear hb5 hb45 hS0 hS1 hSl hbw4
  obtain ⟨r0, r1, r2, r3, r4, r5⟩ := hR3
  obtain ⟨s0, s1, s2, s3, s4, s5⟩ := hR4
  obtain ⟨cs0, cs1⟩ := cs
  obtain ⟨cz0, cz1⟩ := cz
  obtain ⟨cS0, cS1⟩ := cS
  have l3 := World.block_lt_of_cell? _ _ r0
  have l4 := World.block_lt_of_cell? _ _ s0
  have ls := World.block_lt_of_cell? _ _ cs0
  have lz := World.block_lt_of_cell? _ _ cz0
  have lS := World.block_lt_of_cell? _ _ cS0
  simp only at l3 l4 ls lz lS
  simp only [Nat.zero_add] at r1 r2 r3 r4 r5 s1 s2 s3 s4 s5
  go_wp2_with fail
  go_quiet (fail)
  go_wp2_with fail
  refine (pf22_any _ _ _ _ _ _ _).mono ?_
  rintro e w6 ⟨rfl, hb6⟩
  rw [hon.out, ham.out]
  have hbx : Below w5.heap.size w5 w6 := (below_drewN (below1 _ _) _).trans (hb6.mono (by simp [go_sem]))
  have cg : C2 w6 w5.heap.size (.bool true) (.int .i64 th) := ((C2.new _ _ _ _).later (below_drewN (Below.refl _ _) _)).later hb6
  have hbw6 := hbw5.trans (hbx.mono hbw5.size)
  have cs0 := cell_later hbx cs0
  have cs1 := cell_later hbx cs1
  have cz0 := cell_later hbx cz0
  have cz1 := cell_later hbx cz1
  have cS0 := cell_later hbx cS0
  have hR4 : RuleIn w6 g4 0 tr th am fa fe q4 := (RuleIn.later ⟨s0, s1, s2, s3, s4, s5⟩ hbx)
  obtain ⟨cg0, cg1⟩ := cg
  have ls := World.block_lt_of_cell? _ _ cs0
  have lz := World.block_lt_of_cell? _ _ cz0
  have lS := World.block_lt_of_cell? _ _ cS0
  have lg := World.block_lt_of_cell? _ _ cg0
  simp only at ls lz lS lg
  clear hb6 hbx s0 s1 s2 s3 s4 s5 r0 r1 r2 r3 r4 r5
  go_wp2_with fail
  refine (due21_some _ _ _ _ _ _ _ _ _ _ _ (hR4.later (below1 _ _))).mono ?_
  rintro e w7 ⟨rfl, hb7⟩
  rw [dueOn_pf hon.out, dueAmt_pf hon.out, ham.out]
  have hb67 : Below w6.heap.size w6 w7 := (below1 _ _).trans (hb7.mono (by simp only [World.size_alloc]; omega))
  have hbw7 := hbw6.trans (hb67.mono hbw6.size)
  have cg0 := cell_later hb67 cg0
  have cg1 := cell_later hb67 cg1
  have lg := World.block_lt_of_cell? _ _ cg0
  simp only at lg
  clear hb7 hb67
  go_wp2
  go_ret
  exact ⟨rfl, hbw7.alloc hbw7.size _⟩

set_option maxRecDepth 100000 in
set_option maxHeartbeats 2000000 in
theorem law5_force_true (sa : Int) (w : World) (b o : Nat) (tr : ByteArray) (th am fa : Int) (p : Option Addr) (hR : RuleIn w b o tr th am fa true p) (hP : TierP w p) (hs : tr.size ≤ maxLen) (hsg : (tr.toList == [115, 105, 110, 103, 108, 101, 95, 114, 101, 99, 104, 97, 114, 103, 101]) = false) (hon : Hid (pfOn tr true = true)) (ham : Hid (pfAmt tr th fa = fa)) :
    Calls Try.prog 5 #[.pointer (some ⟨b, o, none⟩), .bool false, .agg #[.bool true, .int .i64 sa]] w fun e w' => e = .returned (.bool true) ∧ Below w.heap.size w w' := by
  have hE := eql34
  have hN := neq34
  go_enter Try.func5, Try.ntmps5
  go_wp2_with fail
  refine (bytes17_any _ _ _ _ _ _ _ _ _ _ _ _ (hR.later (below1 _ _)) (hP.later (below1 _ _)) hs).mono ?_
  rintro e w1 ⟨⟨r, rfl, _⟩, hb1⟩
  have hbw1 : Below w.heap.size w w1 := (below1 _ _).trans (hb1.mono (by simp))
  have cS : C2 w1 w.heap.size (.bool true) (.int .i64 sa) := (C2.new _ _ _ _).later hb1
  clear hb1
  cases r with
  | false =>
    go_wp2
    go_ret
    exact ⟨rfl, hbw1⟩
  | true =>
  go_wp2_with fail
  refine (pfits18_any _ _ _ _ _ _ _ _ _ (hR.later hbw1) (hP.later hbw1) hs).mono ?_
  rintro e w2 ⟨⟨r, rfl, hq⟩, hb2⟩
  have hbw2 := hbw1.trans (hb2.mono hbw1.size)
  have cS := cS.later hb2
  cases r with
  | false =>
    clear hq
    go_wp2
    go_ret
    exact ⟨rfl, hbw2⟩
  | true =>
  have hQ2 := (hq rfl).later hb2
  clear hq hb2
  go_wp2_with fail
  refine (clone19_any _ _ _ _ _ _ _ _ _ (hR.later hbw2) hQ2).mono ?_
  rintro e w3 ⟨g3, q3, rfl, hb3, hR3, hQ3⟩
  have hbw3 := hbw2.trans (hb3.mono hbw2.size)
  have cS := cS.later hb3
  clear hb3 hQ2
  go_wp2_with fail
  refine (to20_any _ _ _ _ _ _ _ _ _ hR3 hQ3).mono ?_
  rintro e w4 ⟨g4, q4, rfl, hb4, hR4, hQ4⟩
  have hbw4 := hbw3.trans (hb4.mono hbw3.size)
  have cS := cS.later hb4
  have hR3 := hR3.later hb4
  have hS0 := cS.1
  have hS1 := cS.2
  have hSl := cS.lt
  clear hb4 hQ3 hbw1 hbw2 hbw3 hR hP hQ4
  go_wp2_with fail
  refine (due21_some _ _ _ _ _ _ _ _ _ _ _ (hR4.later (below2 _ _ _))).mono ?_
  rintro e w5 ⟨rfl, hb5⟩
  rw [dueOn_pf hon.out, dueAmt_pf hon.out, ham.out]
  have hb45 : Below w4.heap.size w4 w5 := (below2 _ _ _).trans (hb5.mono (by simp only [World.size_alloc]; omega))
  have cs : C2 w5 w4.heap.size (.bool true) (.int .i64 sa) := ((C2.new _ _ _ _).later (below1 _ _)).later hb5
  have cz : C2 w5 (w4.heap.size + 1) (.bool false) (.int .i64 0) := (C2.new1 _ _ _ _ _).later hb5
  have cS := cS.later hb45
  have hR3 := hR3.later hb45
  have hR4 := hR4.later hb45
  have hbw5 := hbw4.trans (hb45.mono hbw4.size)
  clear hb5 hb45 hS0 hS1 hSl hbw4
  obtain ⟨r0, r1, r2, r3, r4, r5⟩ := hR3
  obtain ⟨s0, s1, s2, s3, s4, s5⟩ := hR4
  obtain ⟨cs0, cs1⟩ := cs
  obtain ⟨cz0, cz1⟩ := cz
  obtain ⟨cS0, cS1⟩ := cS
  have l3 := World.block_lt_of_cell? _ _ r0
  have l4 := World.block_lt_of_cell? _ _ s0
  have ls := World.block_lt_of_cell? _ _ cs0
  have lz := World.block_lt_of_cell? _ _ cz0
  have lS := World.block_lt_of_cell? _ _ cS0
  simp only at l3 l4 ls lz lS
  simp only [Nat.zero_add] at r1 r2 r3 r4 r5 s1 s2 s3 s4 s5
  go_wp2_with fail
  go_quiet (fail)
  go_wp2_with fail
  refine (pf22_any _ _ _ _ _ _ _).mono ?_
  rintro e w6 ⟨rfl, hb6⟩
  rw [hon.out, ham.out]
  have hbx : Below w5.heap.size w5 w6 := (below_drewN (below1 _ _) _).trans (hb6.mono (by simp [go_sem]))
  have cg : C2 w6 w5.heap.size (.bool true) (.int .i64 fa) := ((C2.new _ _ _ _).later (below_drewN (Below.refl _ _) _)).later hb6
  have hbw6 := hbw5.trans (hbx.mono hbw5.size)
  have cs0 := cell_later hbx cs0
  have cs1 := cell_later hbx cs1
  have cz0 := cell_later hbx cz0
  have cz1 := cell_later hbx cz1
  have cS0 := cell_later hbx cS0
  have hR4 : RuleIn w6 g4 0 tr th am fa true q4 := (RuleIn.later ⟨s0, s1, s2, s3, s4, s5⟩ hbx)
  obtain ⟨cg0, cg1⟩ := cg
  have ls := World.block_lt_of_cell? _ _ cs0
  have lz := World.block_lt_of_cell? _ _ cz0
  have lS := World.block_lt_of_cell? _ _ cS0
  have lg := World.block_lt_of_cell? _ _ cg0
  simp only at ls lz lS lg
  clear hb6 hbx s0 s1 s2 s3 s4 s5 r0 r1 r2 r3 r4 r5
  go_wp2_with fail
  refine (due21_some _ _ _ _ _ _ _ _ _ _ _ (hR4.later (below1 _ _))).mono ?_
  rintro e w7 ⟨rfl, hb7⟩
  rw [dueOn_pf hon.out, dueAmt_pf hon.out, ham.out]
  have hb67 : Below w6.heap.size w6 w7 := (below1 _ _).trans (hb7.mono (by simp only [World.size_alloc]; omega))
  have hbw7 := hbw6.trans (hb67.mono hbw6.size)
  have cg0 := cell_later hb67 cg0
  have cg1 := cell_later hb67 cg1
  have lg := World.block_lt_of_cell? _ _ cg0
  simp only at lg
  clear hb7 hb67
  go_wp2
  go_ret
  exact ⟨rfl, hbw7.alloc hbw7.size _⟩

set_option maxRecDepth 100000 in
set_option maxHeartbeats 2000000 in
theorem law5_force_false (sa : Int) (w : World) (b o : Nat) (tr : ByteArray) (th am fa : Int) (p : Option Addr) (hR : RuleIn w b o tr th am fa true p) (hP : TierP w p) (hs : tr.size ≤ maxLen) (hsg : (tr.toList == [115, 105, 110, 103, 108, 101, 95, 114, 101, 99, 104, 97, 114, 103, 101]) = false) (hon : Hid (pfOn tr true = true)) (ham : Hid (pfAmt tr th fa = fa)) :
    Calls Try.prog 5 #[.pointer (some ⟨b, o, none⟩), .bool false, .agg #[.bool false, .int .i64 sa]] w fun e w' => e = .returned (.bool true) ∧ Below w.heap.size w w' := by
  have hE := eql34
  have hN := neq34
  go_enter Try.func5, Try.ntmps5
  go_wp2_with fail
  refine (bytes17_any _ _ _ _ _ _ _ _ _ _ _ _ (hR.later (below1 _ _)) (hP.later (below1 _ _)) hs).mono ?_
  rintro e w1 ⟨⟨r, rfl, _⟩, hb1⟩
  have hbw1 : Below w.heap.size w w1 := (below1 _ _).trans (hb1.mono (by simp))
  have cS : C2 w1 w.heap.size (.bool false) (.int .i64 sa) := (C2.new _ _ _ _).later hb1
  clear hb1
  cases r with
  | false =>
    go_wp2
    go_ret
    exact ⟨rfl, hbw1⟩
  | true =>
  go_wp2_with fail
  refine (pfits18_any _ _ _ _ _ _ _ _ _ (hR.later hbw1) (hP.later hbw1) hs).mono ?_
  rintro e w2 ⟨⟨r, rfl, hq⟩, hb2⟩
  have hbw2 := hbw1.trans (hb2.mono hbw1.size)
  have cS := cS.later hb2
  cases r with
  | false =>
    clear hq
    go_wp2
    go_ret
    exact ⟨rfl, hbw2⟩
  | true =>
  have hQ2 := (hq rfl).later hb2
  clear hq hb2
  go_wp2_with fail
  refine (clone19_any _ _ _ _ _ _ _ _ _ (hR.later hbw2) hQ2).mono ?_
  rintro e w3 ⟨g3, q3, rfl, hb3, hR3, hQ3⟩
  have hbw3 := hbw2.trans (hb3.mono hbw2.size)
  have cS := cS.later hb3
  clear hb3 hQ2
  go_wp2_with fail
  refine (to20_any _ _ _ _ _ _ _ _ _ hR3 hQ3).mono ?_
  rintro e w4 ⟨g4, q4, rfl, hb4, hR4, hQ4⟩
  have hbw4 := hbw3.trans (hb4.mono hbw3.size)
  have cS := cS.later hb4
  have hR3 := hR3.later hb4
  have hS0 := cS.1
  have hS1 := cS.2
  have hSl := cS.lt
  clear hb4 hQ3 hbw1 hbw2 hbw3 hR hP hQ4
  go_wp2_with fail
  refine (due21_some _ _ _ _ _ _ _ _ _ _ _ (hR4.later (below2 _ _ _))).mono ?_
  rintro e w5 ⟨rfl, hb5⟩
  rw [dueOn_pf hon.out, dueAmt_pf hon.out, ham.out]
  have hb45 : Below w4.heap.size w4 w5 := (below2 _ _ _).trans (hb5.mono (by simp only [World.size_alloc]; omega))
  have cs : C2 w5 w4.heap.size (.bool false) (.int .i64 sa) := ((C2.new _ _ _ _).later (below1 _ _)).later hb5
  have cz : C2 w5 (w4.heap.size + 1) (.bool false) (.int .i64 0) := (C2.new1 _ _ _ _ _).later hb5
  have cS := cS.later hb45
  have hR3 := hR3.later hb45
  have hR4 := hR4.later hb45
  have hbw5 := hbw4.trans (hb45.mono hbw4.size)
  clear hb5 hb45 hS0 hS1 hSl hbw4
  obtain ⟨r0, r1, r2, r3, r4, r5⟩ := hR3
  obtain ⟨s0, s1, s2, s3, s4, s5⟩ := hR4
  obtain ⟨cs0, cs1⟩ := cs
  obtain ⟨cz0, cz1⟩ := cz
  obtain ⟨cS0, cS1⟩ := cS
  have l3 := World.block_lt_of_cell? _ _ r0
  have l4 := World.block_lt_of_cell? _ _ s0
  have ls := World.block_lt_of_cell? _ _ cs0
  have lz := World.block_lt_of_cell? _ _ cz0
  have lS := World.block_lt_of_cell? _ _ cS0
  simp only at l3 l4 ls lz lS
  simp only [Nat.zero_add] at r1 r2 r3 r4 r5 s1 s2 s3 s4 s5
  go_wp2_with fail
  go_quiet (fail)
  go_wp2_with fail
  refine (pf22_any _ _ _ _ _ _ _).mono ?_
  rintro e w6 ⟨rfl, hb6⟩
  rw [hon.out, ham.out]
  have hbx : Below w5.heap.size w5 w6 := (below_drewN (below1 _ _) _).trans (hb6.mono (by simp [go_sem]))
  have cg : C2 w6 w5.heap.size (.bool true) (.int .i64 fa) := ((C2.new _ _ _ _).later (below_drewN (Below.refl _ _) _)).later hb6
  have hbw6 := hbw5.trans (hbx.mono hbw5.size)
  have cs0 := cell_later hbx cs0
  have cs1 := cell_later hbx cs1
  have cz0 := cell_later hbx cz0
  have cz1 := cell_later hbx cz1
  have cS0 := cell_later hbx cS0
  have hR4 : RuleIn w6 g4 0 tr th am fa true q4 := (RuleIn.later ⟨s0, s1, s2, s3, s4, s5⟩ hbx)
  obtain ⟨cg0, cg1⟩ := cg
  have ls := World.block_lt_of_cell? _ _ cs0
  have lz := World.block_lt_of_cell? _ _ cz0
  have lS := World.block_lt_of_cell? _ _ cS0
  have lg := World.block_lt_of_cell? _ _ cg0
  simp only at ls lz lS lg
  clear hb6 hbx s0 s1 s2 s3 s4 s5 r0 r1 r2 r3 r4 r5
  go_wp2_with fail
  refine (due21_some _ _ _ _ _ _ _ _ _ _ _ (hR4.later (below1 _ _))).mono ?_
  rintro e w7 ⟨rfl, hb7⟩
  rw [dueOn_pf hon.out, dueAmt_pf hon.out, ham.out]
  have hb67 : Below w6.heap.size w6 w7 := (below1 _ _).trans (hb7.mono (by simp only [World.size_alloc]; omega))
  have hbw7 := hbw6.trans (hb67.mono hbw6.size)
  have cg0 := cell_later hb67 cg0
  have cg1 := cell_later hb67 cg1
  have lg := World.block_lt_of_cell? _ _ cg0
  simp only at lg
  clear hb7 hb67
  go_wp2
  go_ret
  exact ⟨rfl, hbw7.alloc hbw7.size _⟩

set_option maxRecDepth 100000 in
set_option maxHeartbeats 2000000 in
theorem law5_shop (sa : Int) (w : World) (b o : Nat) (tr : ByteArray) (th am fa : Int) (p : Option Addr) (hR : RuleIn w b o tr th am fa false p) (hP : TierP w p) (hs : tr.size ≤ maxLen) (hsg : (tr.toList == [115, 105, 110, 103, 108, 101, 95, 114, 101, 99, 104, 97, 114, 103, 101]) = false) (hon : Hid (pfOn tr false = false)) :
    Calls Try.prog 5 #[.pointer (some ⟨b, o, none⟩), .bool false, .agg #[.bool true, .int .i64 sa]] w fun e w' => e = .returned (.bool true) ∧ Below w.heap.size w w' := by
  have hE := eql34
  have hN := neq34
  go_enter Try.func5, Try.ntmps5
  go_wp2_with fail
  refine (bytes17_any _ _ _ _ _ _ _ _ _ _ _ _ (hR.later (below1 _ _)) (hP.later (below1 _ _)) hs).mono ?_
  rintro e w1 ⟨⟨r, rfl, _⟩, hb1⟩
  have hbw1 : Below w.heap.size w w1 := (below1 _ _).trans (hb1.mono (by simp))
  have cS : C2 w1 w.heap.size (.bool true) (.int .i64 sa) := (C2.new _ _ _ _).later hb1
  clear hb1
  cases r with
  | false =>
    go_wp2
    go_ret
    exact ⟨rfl, hbw1⟩
  | true =>
  go_wp2_with fail
  refine (pfits18_any _ _ _ _ _ _ _ _ _ (hR.later hbw1) (hP.later hbw1) hs).mono ?_
  rintro e w2 ⟨⟨r, rfl, hq⟩, hb2⟩
  have hbw2 := hbw1.trans (hb2.mono hbw1.size)
  have cS := cS.later hb2
  cases r with
  | false =>
    clear hq
    go_wp2
    go_ret
    exact ⟨rfl, hbw2⟩
  | true =>
  have hQ2 := (hq rfl).later hb2
  clear hq hb2
  go_wp2_with fail
  refine (clone19_any _ _ _ _ _ _ _ _ _ (hR.later hbw2) hQ2).mono ?_
  rintro e w3 ⟨g3, q3, rfl, hb3, hR3, hQ3⟩
  have hbw3 := hbw2.trans (hb3.mono hbw2.size)
  have cS := cS.later hb3
  clear hb3 hQ2
  go_wp2_with fail
  refine (to20_any _ _ _ _ _ _ _ _ _ hR3 hQ3).mono ?_
  rintro e w4 ⟨g4, q4, rfl, hb4, hR4, hQ4⟩
  have hbw4 := hbw3.trans (hb4.mono hbw3.size)
  have cS := cS.later hb4
  have hR3 := hR3.later hb4
  have hS0 := cS.1
  have hS1 := cS.2
  have hSl := cS.lt
  clear hb4 hQ3 hbw1 hbw2 hbw3 hR hP hQ4
  go_wp2_with fail
  refine (due21_some _ _ _ _ _ _ _ _ _ _ _ (hR4.later (below2 _ _ _))).mono ?_
  rintro e w5 ⟨rfl, hb5⟩
  rw [dueOn_shop, dueAmt_shop hon.out]
  have hb45 : Below w4.heap.size w4 w5 := (below2 _ _ _).trans (hb5.mono (by simp only [World.size_alloc]; omega))
  have cs : C2 w5 w4.heap.size (.bool true) (.int .i64 sa) := ((C2.new _ _ _ _).later (below1 _ _)).later hb5
  have cz : C2 w5 (w4.heap.size + 1) (.bool false) (.int .i64 0) := (C2.new1 _ _ _ _ _).later hb5
  have cS := cS.later hb45
  have hR3 := hR3.later hb45
  have hR4 := hR4.later hb45
  have hbw5 := hbw4.trans (hb45.mono hbw4.size)
  clear hb5 hb45 hS0 hS1 hSl hbw4
  obtain ⟨r0, r1, r2, r3, r4, r5⟩ := hR3
  obtain ⟨s0, s1, s2, s3, s4, s5⟩ := hR4
  obtain ⟨cs0, cs1⟩ := cs
  obtain ⟨cz0, cz1⟩ := cz
  obtain ⟨cS0, cS1⟩ := cS
  have l3 := World.block_lt_of_cell? _ _ r0
  have l4 := World.block_lt_of_cell? _ _ s0
  have ls := World.block_lt_of_cell? _ _ cs0
  have lz := World.block_lt_of_cell? _ _ cz0
  have lS := World.block_lt_of_cell? _ _ cS0
  simp only at l3 l4 ls lz lS
  simp only [Nat.zero_add] at r1 r2 r3 r4 r5 s1 s2 s3 s4 s5
  go_wp2_with fail
  refine (pf22_any _ _ _ _ _ _ _).mono ?_
  rintro e w6 ⟨rfl, hb6⟩
  rw [hon.out]
  have hbx : Below w5.heap.size w5 w6 := (below1 _ _).trans (hb6.mono (by simp only [World.size_alloc]; omega))
  have cg : C2 w6 w5.heap.size (.bool true) (.int .i64 sa) := (C2.new _ _ _ _).later hb6
  have hbw6 := hbw5.trans (hbx.mono hbw5.size)
  have cs0 := cell_later hbx cs0
  have cs1 := cell_later hbx cs1
  have cz0 := cell_later hbx cz0
  have cz1 := cell_later hbx cz1
  have cS0 := cell_later hbx cS0
  have hR4 : RuleIn w6 g4 0 tr th am fa false q4 := (RuleIn.later ⟨s0, s1, s2, s3, s4, s5⟩ hbx)
  obtain ⟨cg0, cg1⟩ := cg
  have ls := World.block_lt_of_cell? _ _ cs0
  have lz := World.block_lt_of_cell? _ _ cz0
  have lS := World.block_lt_of_cell? _ _ cS0
  have lg := World.block_lt_of_cell? _ _ cg0
  simp only at ls lz lS lg
  clear hb6 hbx s0 s1 s2 s3 s4 s5 r0 r1 r2 r3 r4 r5
  go_wp2_with fail
  refine (due21_some _ _ _ _ _ _ _ _ _ _ _ (hR4.later (below1 _ _))).mono ?_
  rintro e w7 ⟨rfl, hb7⟩
  rw [dueOn_no hon.out, dueAmt_no hon.out]
  have hb67 : Below w6.heap.size w6 w7 := (below1 _ _).trans (hb7.mono (by simp only [World.size_alloc]; omega))
  have hbw7 := hbw6.trans (hb67.mono hbw6.size)
  have cg0 := cell_later hb67 cg0
  have cg1 := cell_later hb67 cg1
  have lg := World.block_lt_of_cell? _ _ cg0
  simp only at lg
  clear hb7 hb67
  go_wp2
  go_ret
  exact ⟨rfl, hbw7.alloc hbw7.size _⟩

set_option maxRecDepth 100000 in
set_option maxHeartbeats 2000000 in
theorem law5_no (sa : Int) (w : World) (b o : Nat) (tr : ByteArray) (th am fa : Int) (p : Option Addr) (hR : RuleIn w b o tr th am fa false p) (hP : TierP w p) (hs : tr.size ≤ maxLen) (hsg : (tr.toList == [115, 105, 110, 103, 108, 101, 95, 114, 101, 99, 104, 97, 114, 103, 101]) = false) (hon : Hid (pfOn tr false = false)) :
    Calls Try.prog 5 #[.pointer (some ⟨b, o, none⟩), .bool false, .agg #[.bool false, .int .i64 sa]] w fun e w' => e = .returned (.bool true) ∧ Below w.heap.size w w' := by
  have hE := eql34
  have hN := neq34
  go_enter Try.func5, Try.ntmps5
  go_wp2_with fail
  refine (bytes17_any _ _ _ _ _ _ _ _ _ _ _ _ (hR.later (below1 _ _)) (hP.later (below1 _ _)) hs).mono ?_
  rintro e w1 ⟨⟨r, rfl, _⟩, hb1⟩
  have hbw1 : Below w.heap.size w w1 := (below1 _ _).trans (hb1.mono (by simp))
  have cS : C2 w1 w.heap.size (.bool false) (.int .i64 sa) := (C2.new _ _ _ _).later hb1
  clear hb1
  cases r with
  | false =>
    go_wp2
    go_ret
    exact ⟨rfl, hbw1⟩
  | true =>
  go_wp2_with fail
  refine (pfits18_any _ _ _ _ _ _ _ _ _ (hR.later hbw1) (hP.later hbw1) hs).mono ?_
  rintro e w2 ⟨⟨r, rfl, hq⟩, hb2⟩
  have hbw2 := hbw1.trans (hb2.mono hbw1.size)
  have cS := cS.later hb2
  cases r with
  | false =>
    clear hq
    go_wp2
    go_ret
    exact ⟨rfl, hbw2⟩
  | true =>
  have hQ2 := (hq rfl).later hb2
  clear hq hb2
  go_wp2_with fail
  refine (clone19_any _ _ _ _ _ _ _ _ _ (hR.later hbw2) hQ2).mono ?_
  rintro e w3 ⟨g3, q3, rfl, hb3, hR3, hQ3⟩
  have hbw3 := hbw2.trans (hb3.mono hbw2.size)
  have cS := cS.later hb3
  clear hb3 hQ2
  go_wp2_with fail
  refine (to20_any _ _ _ _ _ _ _ _ _ hR3 hQ3).mono ?_
  rintro e w4 ⟨g4, q4, rfl, hb4, hR4, hQ4⟩
  have hbw4 := hbw3.trans (hb4.mono hbw3.size)
  have cS := cS.later hb4
  have hR3 := hR3.later hb4
  have hS0 := cS.1
  have hS1 := cS.2
  have hSl := cS.lt
  clear hb4 hQ3 hbw1 hbw2 hbw3 hR hP hQ4
  go_wp2_with fail
  refine (due21_some _ _ _ _ _ _ _ _ _ _ _ (hR4.later (below2 _ _ _))).mono ?_
  rintro e w5 ⟨rfl, hb5⟩
  rw [dueOn_no hon.out, dueAmt_no hon.out]
  have hb45 : Below w4.heap.size w4 w5 := (below2 _ _ _).trans (hb5.mono (by simp only [World.size_alloc]; omega))
  have cs : C2 w5 w4.heap.size (.bool false) (.int .i64 sa) := ((C2.new _ _ _ _).later (below1 _ _)).later hb5
  have cz : C2 w5 (w4.heap.size + 1) (.bool false) (.int .i64 0) := (C2.new1 _ _ _ _ _).later hb5
  have cS := cS.later hb45
  have hR3 := hR3.later hb45
  have hR4 := hR4.later hb45
  have hbw5 := hbw4.trans (hb45.mono hbw4.size)
  clear hb5 hb45 hS0 hS1 hSl hbw4
  obtain ⟨r0, r1, r2, r3, r4, r5⟩ := hR3
  obtain ⟨s0, s1, s2, s3, s4, s5⟩ := hR4
  obtain ⟨cs0, cs1⟩ := cs
  obtain ⟨cz0, cz1⟩ := cz
  obtain ⟨cS0, cS1⟩ := cS
  have l3 := World.block_lt_of_cell? _ _ r0
  have l4 := World.block_lt_of_cell? _ _ s0
  have ls := World.block_lt_of_cell? _ _ cs0
  have lz := World.block_lt_of_cell? _ _ cz0
  have lS := World.block_lt_of_cell? _ _ cS0
  simp only at l3 l4 ls lz lS
  simp only [Nat.zero_add] at r1 r2 r3 r4 r5 s1 s2 s3 s4 s5
  go_wp2_with fail
  refine (pf22_any _ _ _ _ _ _ _).mono ?_
  rintro e w6 ⟨rfl, hb6⟩
  rw [hon.out]
  have hbx : Below w5.heap.size w5 w6 := (below1 _ _).trans (hb6.mono (by simp only [World.size_alloc]; omega))
  have cg : C2 w6 w5.heap.size (.bool false) (.int .i64 0) := (C2.new _ _ _ _).later hb6
  have hbw6 := hbw5.trans (hbx.mono hbw5.size)
  have cs0 := cell_later hbx cs0
  have cs1 := cell_later hbx cs1
  have cz0 := cell_later hbx cz0
  have cz1 := cell_later hbx cz1
  have cS0 := cell_later hbx cS0
  have hR4 : RuleIn w6 g4 0 tr th am fa false q4 := (RuleIn.later ⟨s0, s1, s2, s3, s4, s5⟩ hbx)
  obtain ⟨cg0, cg1⟩ := cg
  have ls := World.block_lt_of_cell? _ _ cs0
  have lz := World.block_lt_of_cell? _ _ cz0
  have lS := World.block_lt_of_cell? _ _ cS0
  have lg := World.block_lt_of_cell? _ _ cg0
  simp only at ls lz lS lg
  clear hb6 hbx s0 s1 s2 s3 s4 s5 r0 r1 r2 r3 r4 r5
  go_wp2_with fail
  refine (due21_some _ _ _ _ _ _ _ _ _ _ _ (hR4.later (below1 _ _))).mono ?_
  rintro e w7 ⟨rfl, hb7⟩
  rw [dueOn_no hon.out, dueAmt_no hon.out]
  have hb67 : Below w6.heap.size w6 w7 := (below1 _ _).trans (hb7.mono (by simp only [World.size_alloc]; omega))
  have hbw7 := hbw6.trans (hb67.mono hbw6.size)
  have cg0 := cell_later hb67 cg0
  have cg1 := cell_later hb67 cg1
  have lg := World.block_lt_of_cell? _ _ cg0
  simp only at lg
  clear hb7 hb67
  go_wp2
  go_ret
  exact ⟨rfl, hbw7.alloc hbw7.size _⟩

set_option maxRecDepth 100000 in
set_option maxHeartbeats 2000000 in
theorem law5_nil (paid se : Bool) (sa : Int) (w : World) :
    Calls Try.prog 5 #[.pointer none, .bool paid, .agg #[.bool se, .int .i64 sa]] w fun e w' => e = .returned (.bool true) ∧ Below w.heap.size w w' := by
  have hE := eql34
  have hN := neq34
  go_enter Try.func5, Try.ntmps5
  go_wp2_with fail
  refine (bytes17_nil _ _ _ _).mono ?_
  rintro e w1 ⟨⟨r, rfl, _⟩, hb1⟩
  have hbw1 : Below w.heap.size w w1 := (below1 _ _).trans (hb1.mono (by simp))
  have cS : C2 w1 w.heap.size (.bool se) (.int .i64 sa) := (C2.new _ _ _ _).later hb1
  clear hb1
  cases r with
  | false =>
    go_wp2
    go_ret
    exact ⟨rfl, hbw1⟩
  | true =>
  go_wp2_with fail
  refine (pfits18_nil _).mono ?_
  rintro e w2 ⟨⟨r, rfl, _⟩, hb2⟩
  have cS := cS.later hb2
  have hbw2 := hbw1.trans (hb2.mono hbw1.size)
  clear hb2
  cases r with
  | false =>
    go_wp2
    go_ret
    exact ⟨rfl, hbw2⟩
  | true =>
  go_wp2_with fail
  refine (clone19_nil _).mono ?_
  rintro e w3 ⟨rfl, rfl⟩
  go_wp2_with fail
  refine (to20_nil _).mono ?_
  rintro e w4 ⟨rfl, rfl⟩
  have hS0 := cS.1
  have hS1 := cS.2
  have hSl := cS.lt
  go_wp2_with fail
  refine (due21_none _ _ _ _ _ (.inl rfl)).mono ?_
  rintro e w5 ⟨rfl, hb5⟩
  have hb45 := (below2 _ _ _).trans (hb5.mono (by simp only [World.size_alloc]; omega))
  have cz := (C2.new1 _ _ _ _ _).later hb5
  have hbw5 := hbw2.trans (hb45.mono hbw2.size)
  obtain ⟨cz0, cz1⟩ := cz
  have lz := World.block_lt_of_cell? _ _ cz0
  simp only at lz
  clear hb5 hb45 hS0 hS1 hSl
  go_wp2
  go_ret
  exact ⟨rfl, hbw5.alloc hbw5.size _⟩
end Go.Proofs.Qxb6603944a
