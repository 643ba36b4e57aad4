/-
  appendLine: its contract.
-/
import Derived.Test.Qxb6600485aDoorRows
import Derived.Test.Qxb6600485aDoorShelf
import Derived.Test.Qxb6600485aDoorPlain
import Derived.Lib.AppendIntMem
import Derived.Lib.Hide
import Derived.WalkKit
import Derived.WalkSpells
import Derived.WalkLawsBesides
import Derived.BigCall
namespace Go.Proofs.Qxb6600485aDoor
open Go.RowKit Go.Lib
set_option linter.unusedVariables false

theorem Tryd.info5 : (Tryd.prog.info? 5).map (fun i => (i.zero, i.size, i.bytes)) = some (some (.int .u8 0), 1, 1) := by kernel_rfl

/-- the table of powers, whatever is done from block B on -/
def Tab (B : Nat) (w : World) : Prop := Lib.TabBelow Tryd.prog B w "internal/strconv.uint64pow10" .u64 Lib.pow10Tab

/-- the call owns a row of bytes -/
def Owns (w : World) (B : Nat) (v : Value) (l : List UInt8) : Prop := w.ownsRow B 5 1 v l.length (Lib.byteCells l)

theorem one_new (W : World) (N : Nat) (x : Value) (t : TypeId) (hN : N = W.heap.size) : ∀ j u, [x][j]? = some u → (W.alloc (.cells #[x] t)).cell? ((⟨N, 0, none⟩ : Addr).add j) = some u := by
  intro j u hj
  match j, hj with
  | 0, hj => simp at hj; subst hj; rw [Addr.add_lit, World.cell?_alloc_at _ _ _ _ hN]; rfl
theorem two_new (W : World) (N : Nat) (x y : Value) (t : TypeId) (hN : N = W.heap.size) : ∀ j u, [x, y][j]? = some u → (W.alloc (.cells #[x, y] t)).cell? ((⟨N, 0, none⟩ : Addr).add j) = some u := by
  intro j u hj
  match j, hj with
  | 0, hj => simp at hj; subst hj; rw [Addr.add_lit, World.cell?_alloc_at _ _ _ _ hN]; rfl
  | 1, hj => simp at hj; subst hj; rw [Addr.add_lit, World.cell?_alloc_at _ _ _ _ hN]; rfl

/-- strconv.AppendInt at base 10 -/
theorem appInt (B : Nat) (i : Int) (h0 : -9223372036854775808 ≤ i) (h1 : i ≤ 9223372036854775807) (sv : Value) (l : List UInt8) (w : World) (hown : Owns w B sv l) (hBw : B ≤ w.heap.size) (hlim : l.length ≤ 1000) (ht : Tab B w) :
    Calls Tryd.prog 12 #[sv, .int .i64 i, .int .i64 10] w fun e w' => ∃ v', e = .returned v' ∧ Owns w' B v' (l ++ Lib.itoa i) ∧ Below B w w' :=
  (Tryd.strconv_AppendInt_10 B l.length i h0 h1 sv (Lib.byteCells l) w hown hBw (by omega) ht).mono fun e w' ⟨v', he, ho, hb, _⟩ => ⟨v', he, by
    unfold Owns
    rw [List.length_append, Lib.byteCells_append]
    exact ho, hb⟩

/-- the line of an event -/
def tailI (op : UInt8) (it : Int) : List UInt8 := if op.toNat = 114 ∨ op.toNat = 119 then 32 :: itoa it else []
def tailW (hw : Bool) (wr : Int) : List UInt8 := if hw = true then 32 :: itoa wr else []
def lineOf (tx : Int) (op : UInt8) (it wr : Int) (hw : Bool) : List UInt8 := itoa tx ++ [32, op] ++ tailI op it ++ tailW hw wr

/-- an event's five cells -/
def EvAt (w : World) (b : Nat) (tx it wr : Int) (op : UInt8) (hw : Bool) : Prop :=
  w.cell? ⟨b, 0, none⟩ = some (.int .i64 tx) ∧ w.cell? ⟨b, 1, none⟩ = some (.int .u8 op.toNat) ∧ w.cell? ⟨b, 2, none⟩ = some (.int .i64 it) ∧ w.cell? ⟨b, 3, none⟩ = some (.int .i64 wr) ∧ w.cell? ⟨b, 4, none⟩ = some (.bool hw)
theorem EvAt.later {w w' : World} {b B : Nat} {tx it wr : Int} {op : UInt8} {hw : Bool} (h : EvAt w b tx it wr op hw) (hB : b < B) (hb : Below B w w') : EvAt w' b tx it wr op hw :=
  ⟨(hb.cell (by exact hB)).trans h.1, (hb.cell (by exact hB)).trans h.2.1, (hb.cell (by exact hB)).trans h.2.2.1, (hb.cell (by exact hB)).trans h.2.2.2.1, (hb.cell (by exact hB)).trans h.2.2.2.2⟩
theorem EvAt.new (w : World) (tx it wr : Int) (op : UInt8) (hw : Bool) (t : TypeId) : EvAt (w.alloc (.cells #[.int .i64 tx, .int .u8 op.toNat, .int .i64 it, .int .i64 wr, .bool hw] t)) w.heap.size tx it wr op hw := by
  refine ⟨?_, ?_, ?_, ?_, ?_⟩ <;> (rw [World.cell?_alloc_at _ _ _ _ rfl]; rfl)

theorem Owns.app1 {w' : World} {B : Nat} {v : Value} {l : List UInt8} {b : UInt8} (h : w'.ownsRow B 5 1 v (l.length + 1) (Lib.byteCells l ++ [Value.int .u8 b.toNat])) : Owns w' B v (l ++ [b]) := by
  unfold Owns
  rw [List.length_append, Lib.byteCells_append]
  exact h
theorem Owns.app2 {w' : World} {B : Nat} {v : Value} {l : List UInt8} {a b : UInt8} (h : w'.ownsRow B 5 1 v (l.length + 2) (Lib.byteCells l ++ [Value.int .u8 a.toNat, Value.int .u8 b.toNat])) : Owns w' B v (l ++ [a, b]) := by
  unfold Owns
  rw [List.length_append, Lib.byteCells_append]
  exact h

theorem u8cell (b : UInt8) : ∀ u ∈ [Value.int .u8 (b.toNat : Int)], u.oneCell' = true := by
  intro u hu; simp at hu; subst hu; rfl
theorem u8cell2 (a : Int) (b : UInt8) : ∀ u ∈ [Value.int .u8 a, Value.int .u8 (b.toNat : Int)], u.oneCell' = true := by
  intro u hu; simp at hu; rcases hu with rfl | rfl <;> rfl

set_option maxRecDepth 100000 in
set_option maxHeartbeats 2000000 in
theorem line11_any (w : World) (tx it wr : Int) (op : UInt8) (hw : Bool) (t0 : -9223372036854775808 ≤ tx) (t1 : tx ≤ 9223372036854775807) (i0 : -9223372036854775808 ≤ it) (i1 : it ≤ 9223372036854775807) (r0 : -9223372036854775808 ≤ wr) (r1 : wr ≤ 9223372036854775807)
    (ht : Tab w.heap.size w) :
    Calls Tryd.prog 11 #[.agg #[.int .i64 tx, .int .u8 op.toNat, .int .i64 it, .int .i64 wr, .bool hw], .slice none 0 0] w fun e w' => ∃ v, e = .returned v ∧ Owns w' (w.heap.size + 1) v (lineOf tx op it wr hw) ∧ Below w.heap.size w w' := by
  obtain ⟨i5, hi, hz0, hz1, hz2⟩ := info_parts Tryd.info5
  have la := itoa_le tx t0 t1
  have lb := itoa_le it i0 i1
  have hb0 : Below w.heap.size w (w.alloc (.cells #[.int .i64 tx, .int .u8 op.toNat, .int .i64 it, .int .i64 wr, .bool hw] 33)) := (Below.refl _ _).alloc (Nat.le_refl _) _
  have ev0 := EvAt.new w tx it wr op hw 33
  have hT0 : Tab (w.heap.size + 1) (w.alloc (.cells #[.int .i64 tx, .int .u8 op.toNat, .int .i64 it, .int .i64 wr, .bool hw] 33)) := fun w' hb => ht w' (hb0.trans (hb.mono (by omega)))
  have hz00 : w.heap.size + 1 ≤ (w.alloc (.cells #[.int .i64 tx, .int .u8 op.toNat, .int .i64 it, .int .i64 wr, .bool hw] 33)).heap.size := by simp
  go_enter Tryd.func11, Tryd.ntmps11
  go_wp2_with fail
  refine (appInt (w.heap.size + 1) tx t0 t1 _ [] _ (World.ownsRow_nil _ _ _ _) hz00 (by simp) hT0).mono ?_
  rintro e w1 ⟨v1, rfl, hown1, hb1⟩
  rw [List.nil_append] at hown1
  have hz1' := hb1.size
  have ev1 := ev0.later (by omega) hb1
  have hT1 : Tab (w.heap.size + 1) w1 := hT0.on hb1
  have hbw1 := hb0.trans (hb1.mono (by omega))
  generalize hB : w.heap.size + 1 = B at *
  have hBw1 : B ≤ w1.heap.size := by omega
  have hbl : w.heap.size < B := by omega
  have hbl1 : w.heap.size < w1.heap.size := by omega
  obtain ⟨c0, c1, c2, c3, c4⟩ := ev1
  have HB : Hid (w.heap.size + 1 = B) := hB
  clear hz00 hb0 hb1 ev0 hT0 hz1' hB
  go_wp2_with (at_builtin; refine wpList_append_own _ rfl _ _ 22 rfl B 5 i5 (.int .u8 0) 1 1 Tryd.underlying22 hi hz0 hz1 hz2 rfl (by decide) _ _ _ rfl (hown1.alloc _) ⟨w1.heap.size, 0, none⟩ 2 2 [Value.int .u8 32, Value.int .u8 op.toNat] rfl rfl (two_new _ _ _ _ _ rfl) (u8cell2 _ _) (by unfold maxLen; omega) (by omega) (by simp; omega) ?_)
  intro v2 w2 hown2 hgrow2 _
  have hbn2 : Below B w1 w2 := ((Below.refl _ _).alloc hBw1 _).grown hgrow2 (by simp; omega) (fun k hk => (World.ownsRow.lt hown1 k hk).1)
  have hO2 : Owns w2 B v2 (itoa tx ++ [32, op]) := Owns.app2 (a := 32) hown2
  have ev2 := EvAt.later ⟨c0, c1, c2, c3, c4⟩ hbl hbn2
  have hT2 : Tab B w2 := hT1.on hbn2
  have hbw2 := hbw1.trans (hbn2.mono (by omega))
  have hBw2 : B ≤ w2.heap.size := Nat.le_trans hBw1 hbn2.size
  clear hown2 hgrow2 hown1 hT1 hbn2 c0 c1 c2 c3 c4
  obtain ⟨L2, hL2⟩ : ∃ L, itoa tx ++ [32, op] = L := ⟨_, rfl⟩
  rw [hL2] at hO2
  have hl2 : L2.length ≤ 22 := by rw [← hL2]; simp; omega
  have HL2 : Hid (itoa tx ++ [32, op] = L2) := hL2
  obtain ⟨c0, c1, c2, c3, c4⟩ := ev2
  clear hL2
  by_cases h1 : op.toNat = 114
  · have q1 : ((op.toNat : Int) == 114) = true := by simp; omega
    have HT : Hid (tailI op it = 32 :: itoa it) := by unfold tailI; rw [if_pos (.inl h1)]; exact rfl
    clear h1
    go_wp2_with (at_builtin; refine wpList_append_own _ rfl _ _ 22 rfl B 5 i5 (.int .u8 0) 1 1 Tryd.underlying22 hi hz0 hz1 hz2 rfl (by decide) _ _ _ rfl (World.ownsRow.alloc hO2 _) ⟨w2.heap.size, 0, none⟩ 1 1 [Value.int .u8 32] rfl rfl (one_new _ _ _ _ rfl) (u8cell 32) (by unfold maxLen; omega) (by omega) (by simp; omega) ?_)
    intro v3 w3 hown3 hgrow3 _
    have hbn3 : Below B w2 w3 := ((Below.refl _ _).alloc hBw2 _).grown hgrow3 (by simp; omega) (fun k hk => (World.ownsRow.lt hO2 k hk).1)
    have hO3 : Owns w3 B v3 (L2 ++ [32]) := Owns.app1 (b := 32) hown3
    have ev3 := EvAt.later ⟨c0, c1, c2, c3, c4⟩ hbl hbn3
    have hbw3 := hbw2.trans (hbn3.mono (by omega))
    have hBw3 : B ≤ w3.heap.size := Nat.le_trans hBw2 hbn3.size
    have hT3 : Tab B w3 := hT2.on hbn3
    clear hown3 hgrow3 hbn3 hO2 hT2 c0 c1 c2 c3 c4
    obtain ⟨c0, c1, c2, c3, c4⟩ := ev3
    go_wp2_with fail
    refine (appInt B it i0 i1 _ (L2 ++ [32]) _ hO3 hBw3 (by simp; omega) hT3).mono ?_
    rintro e w4 ⟨v4, rfl, hO4, hb4⟩
    have ev4 := EvAt.later ⟨c0, c1, c2, c3, c4⟩ hbl hb4
    have hbw4 := hbw3.trans (hb4.mono (by omega))
    have hBw4 : B ≤ w4.heap.size := Nat.le_trans hBw3 hb4.size
    have hT4 : Tab B w4 := hT3.on hb4
    clear hb4 hO3 hT3 c0 c1 c2 c3 c4
    obtain ⟨c0, c1, c2, c3, c4⟩ := ev4
    have hO4 : Owns w4 B v4 (L2 ++ 32 :: itoa it) := by simpa using hO4
    obtain ⟨L4, hL4⟩ : ∃ L, L2 ++ 32 :: itoa it = L := ⟨_, rfl⟩
    rw [hL4] at hO4
    have hl4 : L4.length ≤ 43 := by rw [← hL4]; simp; omega
    have HL4 : Hid (L2 ++ 32 :: itoa it = L4) := hL4
    clear hL4
    cases hw with
    | false =>
      go_wp2
      go_ret
      exact ⟨_, rfl, by rw [HB.out]; unfold lineOf; rw [HL2.out, HT.out, HL4.out]; simpa [tailW] using hO4, hbw4⟩
    | true =>
      go_wp2_with (at_builtin; refine wpList_append_own _ rfl _ _ 22 rfl B 5 i5 (.int .u8 0) 1 1 Tryd.underlying22 hi hz0 hz1 hz2 rfl (by decide) _ _ _ rfl (World.ownsRow.alloc hO4 _) ⟨w4.heap.size, 0, none⟩ 1 1 [Value.int .u8 32] rfl rfl (one_new _ _ _ _ rfl) (u8cell 32) (by unfold maxLen; omega) (by omega) (by simp; omega) ?_)
      intro v5 w5 hown5 hgrow5 _
      have hbn5 : Below B w4 w5 := ((Below.refl _ _).alloc hBw4 _).grown hgrow5 (by simp; omega) (fun k hk => (World.ownsRow.lt hO4 k hk).1)
      have hO5 : Owns w5 B v5 (L4 ++ [32]) := Owns.app1 (b := 32) hown5
      have ev5 := EvAt.later ⟨c0, c1, c2, c3, c4⟩ hbl hbn5
      have hbw5 := hbw4.trans (hbn5.mono (by omega))
      have hBw5 : B ≤ w5.heap.size := Nat.le_trans hBw4 hbn5.size
      have hT5 : Tab B w5 := hT4.on hbn5
      obtain ⟨c0, c1, c2, c3, c4⟩ := ev5
      clear hown5 hgrow5 hbn5
      go_wp2_with fail
      refine (appInt B wr r0 r1 _ (L4 ++ [32]) _ hO5 hBw5 (by simp; omega) hT5).mono ?_
      rintro e w6 ⟨v6, rfl, hO6, hb6⟩
      have hbw6 := hbw5.trans (hb6.mono (by omega))
      clear hb6 hO5
      go_wp2
      go_ret
      exact ⟨_, rfl, by rw [HB.out]; unfold lineOf; rw [HL2.out, HT.out, HL4.out]; simpa [tailW, List.append_assoc] using hO6, hbw6⟩
  · have q1 : ((op.toNat : Int) == 114) = false := by simp; omega
    by_cases h2 : op.toNat = 119
    · have q2 : ((op.toNat : Int) == 119) = true := by simp; omega
      have HT : Hid (tailI op it = 32 :: itoa it) := by unfold tailI; rw [if_pos (.inr h2)]; exact rfl
      clear h1 h2
      go_wp2_with (at_builtin; refine wpList_append_own _ rfl _ _ 22 rfl B 5 i5 (.int .u8 0) 1 1 Tryd.underlying22 hi hz0 hz1 hz2 rfl (by decide) _ _ _ rfl (World.ownsRow.alloc hO2 _) ⟨w2.heap.size, 0, none⟩ 1 1 [Value.int .u8 32] rfl rfl (one_new _ _ _ _ rfl) (u8cell 32) (by unfold maxLen; omega) (by omega) (by simp; omega) ?_)
      intro v3 w3 hown3 hgrow3 _
      have hbn3 : Below B w2 w3 := ((Below.refl _ _).alloc hBw2 _).grown hgrow3 (by simp; omega) (fun k hk => (World.ownsRow.lt hO2 k hk).1)
      have hO3 : Owns w3 B v3 (L2 ++ [32]) := Owns.app1 (b := 32) hown3
      have ev3 := EvAt.later ⟨c0, c1, c2, c3, c4⟩ hbl hbn3
      have hbw3 := hbw2.trans (hbn3.mono (by omega))
      have hBw3 : B ≤ w3.heap.size := Nat.le_trans hBw2 hbn3.size
      have hT3 : Tab B w3 := hT2.on hbn3
      clear hown3 hgrow3 hbn3 hO2 hT2 c0 c1 c2 c3 c4
      obtain ⟨c0, c1, c2, c3, c4⟩ := ev3
      go_wp2_with fail
      refine (appInt B it i0 i1 _ (L2 ++ [32]) _ hO3 hBw3 (by simp; omega) hT3).mono ?_
      rintro e w4 ⟨v4, rfl, hO4, hb4⟩
      have ev4 := EvAt.later ⟨c0, c1, c2, c3, c4⟩ hbl hb4
      have hbw4 := hbw3.trans (hb4.mono (by omega))
      have hBw4 : B ≤ w4.heap.size := Nat.le_trans hBw3 hb4.size
      have hT4 : Tab B w4 := hT3.on hb4
      clear hb4 hO3 hT3 c0 c1 c2 c3 c4
      obtain ⟨c0, c1, c2, c3, c4⟩ := ev4
      have hO4 : Owns w4 B v4 (L2 ++ 32 :: itoa it) := by simpa using hO4
      obtain ⟨L4, hL4⟩ : ∃ L, L2 ++ 32 :: itoa it = L := ⟨_, rfl⟩
      rw [hL4] at hO4
      have hl4 : L4.length ≤ 43 := by rw [← hL4]; simp; omega
      have HL4 : Hid (L2 ++ 32 :: itoa it = L4) := hL4
      clear hL4
      cases hw with
      | false =>
        go_wp2
        go_ret
        exact ⟨_, rfl, by rw [HB.out]; unfold lineOf; rw [HL2.out, HT.out, HL4.out]; simpa [tailW] using hO4, hbw4⟩
      | true =>
        go_wp2_with (at_builtin; refine wpList_append_own _ rfl _ _ 22 rfl B 5 i5 (.int .u8 0) 1 1 Tryd.underlying22 hi hz0 hz1 hz2 rfl (by decide) _ _ _ rfl (World.ownsRow.alloc hO4 _) ⟨w4.heap.size, 0, none⟩ 1 1 [Value.int .u8 32] rfl rfl (one_new _ _ _ _ rfl) (u8cell 32) (by unfold maxLen; omega) (by omega) (by simp; omega) ?_)
        intro v5 w5 hown5 hgrow5 _
        have hbn5 : Below B w4 w5 := ((Below.refl _ _).alloc hBw4 _).grown hgrow5 (by simp; omega) (fun k hk => (World.ownsRow.lt hO4 k hk).1)
        have hO5 : Owns w5 B v5 (L4 ++ [32]) := Owns.app1 (b := 32) hown5
        have ev5 := EvAt.later ⟨c0, c1, c2, c3, c4⟩ hbl hbn5
        have hbw5 := hbw4.trans (hbn5.mono (by omega))
        have hBw5 : B ≤ w5.heap.size := Nat.le_trans hBw4 hbn5.size
        have hT5 : Tab B w5 := hT4.on hbn5
        obtain ⟨c0, c1, c2, c3, c4⟩ := ev5
        clear hown5 hgrow5 hbn5
        go_wp2_with fail
        refine (appInt B wr r0 r1 _ (L4 ++ [32]) _ hO5 hBw5 (by simp; omega) hT5).mono ?_
        rintro e w6 ⟨v6, rfl, hO6, hb6⟩
        have hbw6 := hbw5.trans (hb6.mono (by omega))
        clear hb6 hO5
        go_wp2
        go_ret
        exact ⟨_, rfl, by rw [HB.out]; unfold lineOf; rw [HL2.out, HT.out, HL4.out]; simpa [tailW, List.append_assoc] using hO6, hbw6⟩
    · have q2 : ((op.toNat : Int) == 119) = false := by simp; omega
      have HT : Hid (tailI op it = []) := by unfold tailI; rw [if_neg (by omega)]; exact rfl
      clear h1 h2
      cases hw with
      | false =>
        go_wp2
        go_ret
        exact ⟨_, rfl, by rw [HB.out]; unfold lineOf; rw [HL2.out, HT.out, List.append_nil]; simpa [tailW] using hO2, hbw2⟩
      | true =>
        go_wp2_with (at_builtin; refine wpList_append_own _ rfl _ _ 22 rfl B 5 i5 (.int .u8 0) 1 1 Tryd.underlying22 hi hz0 hz1 hz2 rfl (by decide) _ _ _ rfl (World.ownsRow.alloc hO2 _) ⟨w2.heap.size, 0, none⟩ 1 1 [Value.int .u8 32] rfl rfl (one_new _ _ _ _ rfl) (u8cell 32) (by unfold maxLen; omega) (by omega) (by simp; omega) ?_)
        intro v5 w5 hown5 hgrow5 _
        have hbn5 : Below B w2 w5 := ((Below.refl _ _).alloc hBw2 _).grown hgrow5 (by simp; omega) (fun k hk => (World.ownsRow.lt hO2 k hk).1)
        have hO5 : Owns w5 B v5 (L2 ++ [32]) := Owns.app1 (b := 32) hown5
        have ev5 := EvAt.later ⟨c0, c1, c2, c3, c4⟩ hbl hbn5
        have hbw5 := hbw2.trans (hbn5.mono (by omega))
        have hBw5 : B ≤ w5.heap.size := Nat.le_trans hBw2 hbn5.size
        have hT5 : Tab B w5 := hT2.on hbn5
        obtain ⟨c0, c1, c2, c3, c4⟩ := ev5
        clear hown5 hgrow5 hbn5
        go_wp2_with fail
        refine (appInt B wr r0 r1 _ (L2 ++ [32]) _ hO5 hBw5 (by simp; omega) hT5).mono ?_
        rintro e w6 ⟨v6, rfl, hO6, hb6⟩
        have hbw6 := hbw5.trans (hb6.mono (by omega))
        clear hb6 hO5
        go_wp2
        go_ret
        exact ⟨_, rfl, by rw [HB.out]; unfold lineOf; rw [HL2.out, HT.out, List.append_nil]; simpa [tailW, List.append_assoc] using hO6, hbw6⟩
end Go.Proofs.Qxb6600485aDoor
