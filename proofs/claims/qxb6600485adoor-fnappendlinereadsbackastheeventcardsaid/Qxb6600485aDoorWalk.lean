/-
  FnAppendLineReadsBackAsTheEvent: the walk.
-/
import Derived.Test.Qxb6600485aDoorParse
namespace Go.Proofs.Qxb6600485aDoor
open Go.RowKit
open Go.Lib (itoa decDigits byteCells)
set_option linter.unusedVariables false

theorem BRow.mid {w : World} {g : Nat} {l X Y Z : List UInt8} (h : BRow w g 0 l) (e : l = X ++ Y ++ Z) : BRow w g X.length Y := by
  subst e
  intro i hi
  have := h (X.length + i) (by simp; omega)
  rw [Nat.zero_add] at this
  rw [this]
  congr 3
  rw [List.getElem_append_left (by simp; omega), List.getElem_append_right (by omega)]
  simp
theorem BRow.at {w : World} {g : Nat} {l X Z : List UInt8} {b : UInt8} (h : BRow w g 0 l) (e : l = X ++ b :: Z) : w.cell? ⟨g, X.length, none⟩ = some (.int .u8 (b.toNat : Nat)) := by
  subst e
  have := h X.length (by simp)
  rw [Nat.zero_add] at this
  rw [this]
  simp

/-- where a field ends -/
theorem field_ends {l X Y Z : List UInt8} (e : l = X ++ Y ++ Z) (hy : ∀ b ∈ Y, b.toNat ≠ 32) (hz : Z = [] ∨ ∃ Z', Z = 32 :: Z') :
    (X.length + Y.length ≤ l.length) ∧ (∀ i (hi : i < l.length), X.length ≤ i → i < X.length + Y.length → l[i].toNat ≠ 32) ∧ ∀ (he : X.length + Y.length < l.length), l[X.length + Y.length].toNat = 32 := by
  subst e
  refine ⟨by simp, fun i hi h1 h2 => ?_, fun he => ?_⟩
  · rw [List.getElem_append_left (by simp; omega), List.getElem_append_right h1]
    exact hy _ (List.getElem_mem _)
  · rcases hz with rfl | ⟨Z', rfl⟩
    · simp at he
    · rw [List.getElem_append_right (by simp)]
      simp

theorem owns_row {w : World} {B : Nat} {v : Value} {L : List UInt8} (h : Owns w B v L) (hL : 0 < L.length) : ∃ g cap, v = .slice (some ⟨g, 0, none⟩) L.length cap ∧ L.length ≤ cap ∧ BRow w g 0 L := by
  rcases h.2 with ⟨-, h0⟩ | ⟨g, cap, cur, rfl, -, -, hnc, -, -, -⟩
  · omega
  · refine ⟨g, cap, rfl, hnc, fun i hi => ?_⟩
    rw [Nat.zero_add, World.ownsRow.cellAt h i (by omega)]
    simp [Lib.byteCells, hi]

/-- what the law reads of the line -/
def LineAt (w : World) (g cap N : Nat) (tx it wr : Int) (op : UInt8) (hw : Bool) : Prop :=
  ∃ L, L = lineOf tx op it wr hw ∧ N = L.length ∧ N ≤ cap ∧ BRow w g 0 L

theorem zz5_line (w : World) (tx it wr : Int) (op : UInt8) (hw : Bool) (t0 : -9223372036854775808 ≤ tx) (t1 : tx ≤ 9223372036854775807) (i0 : -9223372036854775808 ≤ it) (i1 : it ≤ 9223372036854775807) (r0 : -9223372036854775808 ≤ wr) (r1 : wr ≤ 9223372036854775807)
    (ht : Tab w.heap.size w) :
    Calls Tryd.prog 5 #[.int .i64 tx, .int .u8 op.toNat, .int .i64 it, .int .i64 wr, .bool hw, .slice none 0 0] w fun e w' => ∃ g cap N, e = .returned (.slice (some ⟨g, 0, none⟩) N cap) ∧ LineAt w' g cap N tx it wr op hw ∧ Below w.heap.size w w' :=
  (zz5_any w tx it wr op hw t0 t1 i0 i1 r0 r1 ht).mono fun e w' ⟨v, B, he, hO, hb⟩ => by
    obtain ⟨g, cap, hv, hc, hr⟩ := owns_row hO (by simp [lineOf]; omega)
    exact ⟨g, cap, _, by rw [he, hv], ⟨_, rfl, rfl, hc, hr⟩, hb⟩

/-- fieldEnd over the line -/
theorem field_line {w : World} {g cap N : Nat} {tx it wr : Int} {op : UInt8} {hw : Bool} (h : LineAt w g cap N tx it wr op hw) (hN : N ≤ 1000) (X Y Z : List UInt8) (e : lineOf tx op it wr hw = X ++ Y ++ Z) (hy : ∀ b ∈ Y, b.toNat ≠ 32) (hz : Z = [] ∨ ∃ Z', Z = 32 :: Z')
    (k0 p : Nat) (hk : k0 = X.length) (hp : p = X.length + Y.length) :
    Calls Tryd.prog 6 #[.slice (some ⟨g, 0, none⟩) N cap, .int .i64 k0] w fun r w' => r = .returned (.int .i64 p) ∧ w' = w := by
  obtain ⟨L, hL, rfl, _, hrow⟩ := h
  subst hk hp
  have f := field_ends (hL.trans e) hy hz
  exact fieldEnd6 w g cap L hN hrow X.length (X.length + Y.length) (by omega) f.1 f.2.1 f.2.2

/-- a numeral in the line is read back -/
theorem parse_line {w : World} {g cap N : Nat} {tx it wr : Int} {op : UInt8} {hw : Bool} (h : LineAt w g cap N tx it wr op hw) (X Z : List UInt8) (n : Int) (h0 : -9223372036854775808 ≤ n) (h1 : n ≤ 9223372036854775807) (e : lineOf tx op it wr hw = X ++ itoa n ++ Z) (o m c : Nat) (ho : o = X.length) (hm : m = (itoa n).length) :
    Calls Tryd.prog 7 #[.slice (some ⟨g, o, none⟩) m c] w fun r w' => r = .returned (.tuple #[.int .i64 n, .bool true]) ∧ w' = w := by
  obtain ⟨L, hL, rfl, _, hrow⟩ := h
  subst ho hm
  exact parse7_itoa w g X.length c n h0 h1 (hrow.mid (hL.trans e))

theorem cell_line {w : World} {g cap N : Nat} {tx it wr : Int} {op : UInt8} {hw : Bool} (h : LineAt w g cap N tx it wr op hw) (X Z : List UInt8) (b : UInt8) (e : lineOf tx op it wr hw = X ++ b :: Z) (o : Nat) (ho : o = X.length) : w.cell? ⟨g, o, none⟩ = some (.int .u8 (b.toNat : Nat)) := by
  obtain ⟨L, hL, rfl, _, hrow⟩ := h
  subst ho
  exact hrow.at (hL.trans e)

theorem len_line {w : World} {g cap N : Nat} {tx it wr : Int} {op : UInt8} {hw : Bool} (h : LineAt w g cap N tx it wr op hw) : N = (itoa tx).length + 2 + (tailI op it).length + (tailW hw wr).length ∧ N ≤ cap := by
  obtain ⟨L, hL, rfl, hc, _⟩ := h
  refine ⟨?_, hc⟩
  rw [hL]
  simp [lineOf]
  omega

set_option maxRecDepth 100000 in
set_option maxHeartbeats 2000000 in
theorem law3_walk (w : World) (tx it wr : Int) (op : UInt8) (hw : Bool) (t0 : -9223372036854775808 ≤ tx) (t1 : tx ≤ 9223372036854775807) (i0 : -9223372036854775808 ≤ it) (i1 : it ≤ 9223372036854775807) (r0 : -9223372036854775808 ≤ wr) (r1 : wr ≤ 9223372036854775807)
    (ht : Tab w.heap.size w) :
    Calls Tryd.prog 3 #[.int .i64 tx, .int .u8 op.toNat, .int .i64 it, .int .i64 wr, .bool hw] w fun e w' => e = .returned (.bool true) ∧ Below w.heap.size w w' := by
  have la := itoa_le tx t0 t1
  have lb := itoa_le it i0 i1
  have lc := itoa_le wr r0 r1
  have pa := itoa_pos tx
  have pb := itoa_pos it
  have pc := itoa_pos wr
  go_enter Tryd.func3, Tryd.ntmps3
  go_wp2_with fail
  refine (zz5_line w tx it wr op hw t0 t1 i0 i1 r0 r1 ht).mono ?_
  rintro e w1 ⟨g, cap, N, rfl, hL, hb1⟩
  obtain ⟨hN, hNc⟩ := len_line hL
  have hI : (tailI op it).length ≤ 21 := by unfold tailI; split <;> simp; omega
  have hW : (tailW hw wr).length ≤ 21 := by unfold tailW; split <;> simp; omega
  obtain ⟨p, hp⟩ : ∃ p, p = (itoa tx).length := ⟨_, rfl⟩
  have x0 : w1.cell? ⟨g, p, none⟩ = some (.int .u8 32) := cell_line hL (itoa tx) (op :: (tailI op it ++ tailW hw wr)) 32 (by simp [lineOf]) p hp
  have x1 : w1.cell? ⟨g, p + 1, none⟩ = some (.int .u8 (op.toNat : Nat)) := cell_line hL (itoa tx ++ [32]) (tailI op it ++ tailW hw wr) op (by simp [lineOf]) (p + 1) (by simp [hp])
  have hp20 : p ≤ 20 := by omega
  have hp0 : 0 < p := by omega
  have hpN : p + 2 ≤ N := by omega
  have hN1000 : N ≤ 1000 := by omega
  have HP : Hid (p = (itoa tx).length) := hp
  have HN : Hid (N = (itoa tx).length + 2 + (tailI op it).length + (tailW hw wr).length) := hN
  clear hp hN
  go_wp2_with fail
  refine (field_line hL hN1000 [] (itoa tx) (32 :: op :: (tailI op it ++ tailW hw wr)) (by simp [lineOf]) (itoa_ne32 tx) (.inr ⟨_, rfl⟩) 0 p rfl (by rw [HP.out]; simp)).mono ?_
  rintro e w2 ⟨rfl, rfl⟩
  have hpi : (p : Int) ≤ N := by omega
  have hpc : (p : Int) ≤ cap := by omega
  go_wp2_with fail
  refine (parse_line hL [] (32 :: op :: (tailI op it ++ tailW hw wr)) tx t0 t1 (by simp [lineOf]) 0 p cap rfl HP.out).mono ?_
  rintro e w3 ⟨rfl, rfl⟩
  have hd : decide ((N : Int) < (p : Int) + 2) = false := by simp; omega
  have hpi2' : (p : Int) < N := by omega
  have hpi3 : (p : Int) + 1 < N := by omega
  by_cases h1 : op.toNat = 114
  · have q1 : ((op.toNat : Int) == 114) = true := by simp; omega
    have hIT : Hid (tailI op it = 32 :: itoa it) := by unfold tailI; rw [if_pos (by omega)]; exact rfl
    have HT : Hid ((tailI op it).length = 1 + (itoa it).length) := by rw [hIT.out]; simp [Hid]; omega
    obtain ⟨q, hq⟩ : ∃ q, q = (itoa it).length := ⟨_, rfl⟩
    have hqN : p + 2 + 1 + q ≤ N := by have := HN.out; have := HT.out; have := HP.out; omega
    have hq20 : q ≤ 20 := by omega
    have hq0 : 0 < q := by omega
    have HQ : Hid (q = (itoa it).length) := hq
    have x2 : w3.cell? ⟨g, p + 2, none⟩ = some (.int .u8 32) := cell_line hL (itoa tx ++ [32, op]) (itoa it ++ tailW hw wr) 32 (by rw [lineOf, hIT.out]; simp) (p + 2) (by rw [HP.out]; simp)
    have hd2 : decide ((N : Int) ≤ (p : Int) + 2) = false := by simp; omega
    have hpi2 : (p : Int) + 2 < N := by omega
    have hpc3 : (p : Int) + 2 + 1 < cap := by omega
    have hpq : (p : Int) + 2 + 1 + q ≤ N := by omega
    clear hq h1
    go_wp2_with fail
    obtain ⟨E, hE⟩ : ∃ E, E = p + 2 + 1 + q := ⟨_, rfl⟩
    have HE : Hid (E = p + 2 + 1 + q) := hE
    have hEN : E ≤ N := by omega
    have hE0 : p + 2 + 1 < E := by omega
    have hfl := field_line hL hN1000 (itoa tx ++ [32, op] ++ [32]) (itoa it) (tailW hw wr) (by rw [lineOf, hIT.out]; simp) (itoa_ne32 it) (by unfold tailW; split <;> simp) (p + 2 + 1) E (by have := HP.out; simp; omega) (by have := HP.out; have := HQ.out; simp; omega)
    rw [show ((p + 2 + 1 : Nat) : Int) = (p : Int) + 2 + 1 by omega] at hfl
    clear hE hqN hpq
    refine hfl.mono ?_
    rintro e w4 ⟨rfl, rfl⟩
    have hEi0 : (p : Int) + 2 + 1 ≤ E := by omega
    have hEiN : (E : Int) ≤ N := by omega
    have hEic : (E : Int) ≤ cap := by omega
    go_wp2_with fail
    have hpl := parse_line hL (itoa tx ++ [32, op] ++ [32]) (tailW hw wr) it i0 i1 (by rw [lineOf, hIT.out]; simp) (p + 2 + 1) (E - (p + 2 + 1)) (cap - (p + 2 + 1)) (by have := HP.out; simp; omega) (by have := HE.out; have := HQ.out; omega)
    refine hpl.mono ?_
    rintro e w5 ⟨rfl, rfl⟩
    cases hw with
    | false =>
      have HW : Hid ((tailW false wr).length = 0) := by simp [tailW, Hid]
      have hbe : ((E : Int) == (N : Int)) = true := by have := HW.out; have := HN.out; have := HP.out; have := HT.out; have := HE.out; have := HQ.out; simp; omega
      go_wp2
      go_ret
      exact ⟨rfl, hb1⟩
    | true =>
      have HW : Hid (tailW true wr = 32 :: itoa wr) := by simp [tailW, Hid]
      have hNE : N = E + 1 + (itoa wr).length := by have h1 := HN.out; rw [HW.out] at h1; have := HP.out; have := HT.out; have := HE.out; have := HQ.out; simp at h1; omega
      have x3 : w5.cell? ⟨g, E, none⟩ = some (.int .u8 32) := cell_line hL (itoa tx ++ [32, op] ++ tailI op it) (itoa wr) 32 (by rw [lineOf, HW.out]) E (by have := HT.out; have := HP.out; have := HE.out; have := HQ.out; simp; omega)
      have hbe : ((E : Int) == (N : Int)) = false := by simp; omega
      have hEi : (E : Int) < N := by omega
      have hEi1 : (E : Int) + 1 ≤ N := by omega
      have hEc : (E : Int) + 1 < cap := by omega
      have HNE : Hid (N = E + 1 + (itoa wr).length) := hNE
      clear hNE
      go_wp2_with fail
      have hpl := parse_line hL (itoa tx ++ [32, op] ++ tailI op it ++ [32]) [] wr r0 r1 (by rw [lineOf, HW.out]; simp) (E + 1) (N - (E + 1)) (cap - (E + 1)) (by have := HT.out; have := HP.out; have := HE.out; have := HQ.out; simp; omega) (by have := HNE.out; omega)
      refine hpl.mono ?_
      rintro e w6 ⟨rfl, rfl⟩
      go_wp2
      go_ret
      exact ⟨rfl, hb1⟩
  · have q1 : ((op.toNat : Int) == 114) = false := by simp; omega
    by_cases h2 : op.toNat = 119
    · have q2 : ((op.toNat : Int) == 119) = true := by simp; omega
      have hIT : Hid (tailI op it = 32 :: itoa it) := by unfold tailI; rw [if_pos (by omega)]; exact rfl
      have HT : Hid ((tailI op it).length = 1 + (itoa it).length) := by rw [hIT.out]; simp [Hid]; omega
      obtain ⟨q, hq⟩ : ∃ q, q = (itoa it).length := ⟨_, rfl⟩
      have hqN : p + 2 + 1 + q ≤ N := by have := HN.out; have := HT.out; have := HP.out; omega
      have hq20 : q ≤ 20 := by omega
      have hq0 : 0 < q := by omega
      have HQ : Hid (q = (itoa it).length) := hq
      have x2 : w3.cell? ⟨g, p + 2, none⟩ = some (.int .u8 32) := cell_line hL (itoa tx ++ [32, op]) (itoa it ++ tailW hw wr) 32 (by rw [lineOf, hIT.out]; simp) (p + 2) (by rw [HP.out]; simp)
      have hd2 : decide ((N : Int) ≤ (p : Int) + 2) = false := by simp; omega
      have hpi2 : (p : Int) + 2 < N := by omega
      have hpc3 : (p : Int) + 2 + 1 < cap := by omega
      have hpq : (p : Int) + 2 + 1 + q ≤ N := by omega
      clear hq h1 h2
      go_wp2_with fail
      obtain ⟨E, hE⟩ : ∃ E, E = p + 2 + 1 + q := ⟨_, rfl⟩
      have HE : Hid (E = p + 2 + 1 + q) := hE
      have hEN : E ≤ N := by omega
      have hE0 : p + 2 + 1 < E := by omega
      have hfl := field_line hL hN1000 (itoa tx ++ [32, op] ++ [32]) (itoa it) (tailW hw wr) (by rw [lineOf, hIT.out]; simp) (itoa_ne32 it) (by unfold tailW; split <;> simp) (p + 2 + 1) E (by have := HP.out; simp; omega) (by have := HP.out; have := HQ.out; simp; omega)
      rw [show ((p + 2 + 1 : Nat) : Int) = (p : Int) + 2 + 1 by omega] at hfl
      clear hE hqN hpq
      refine hfl.mono ?_
      rintro e w4 ⟨rfl, rfl⟩
      have hEi0 : (p : Int) + 2 + 1 ≤ E := by omega
      have hEiN : (E : Int) ≤ N := by omega
      have hEic : (E : Int) ≤ cap := by omega
      go_wp2_with fail
      have hpl := parse_line hL (itoa tx ++ [32, op] ++ [32]) (tailW hw wr) it i0 i1 (by rw [lineOf, hIT.out]; simp) (p + 2 + 1) (E - (p + 2 + 1)) (cap - (p + 2 + 1)) (by have := HP.out; simp; omega) (by have := HE.out; have := HQ.out; omega)
      refine hpl.mono ?_
      rintro e w5 ⟨rfl, rfl⟩
      cases hw with
      | false =>
        have HW : Hid ((tailW false wr).length = 0) := by simp [tailW, Hid]
        have hbe : ((E : Int) == (N : Int)) = true := by have := HW.out; have := HN.out; have := HP.out; have := HT.out; have := HE.out; have := HQ.out; simp; omega
        go_wp2
        go_ret
        exact ⟨rfl, hb1⟩
      | true =>
        have HW : Hid (tailW true wr = 32 :: itoa wr) := by simp [tailW, Hid]
        have hNE : N = E + 1 + (itoa wr).length := by have h1 := HN.out; rw [HW.out] at h1; have := HP.out; have := HT.out; have := HE.out; have := HQ.out; simp at h1; omega
        have x3 : w5.cell? ⟨g, E, none⟩ = some (.int .u8 32) := cell_line hL (itoa tx ++ [32, op] ++ tailI op it) (itoa wr) 32 (by rw [lineOf, HW.out]) E (by have := HT.out; have := HP.out; have := HE.out; have := HQ.out; simp; omega)
        have hbe : ((E : Int) == (N : Int)) = false := by simp; omega
        have hEi : (E : Int) < N := by omega
        have hEi1 : (E : Int) + 1 ≤ N := by omega
        have hEc : (E : Int) + 1 < cap := by omega
        have HNE : Hid (N = E + 1 + (itoa wr).length) := hNE
        clear hNE
        go_wp2_with fail
        have hpl := parse_line hL (itoa tx ++ [32, op] ++ tailI op it ++ [32]) [] wr r0 r1 (by rw [lineOf, HW.out]; simp) (E + 1) (N - (E + 1)) (cap - (E + 1)) (by have := HT.out; have := HP.out; have := HE.out; have := HQ.out; simp; omega) (by have := HNE.out; omega)
        refine hpl.mono ?_
        rintro e w6 ⟨rfl, rfl⟩
        go_wp2
        go_ret
        exact ⟨rfl, hb1⟩
    · have q2 : ((op.toNat : Int) == 119) = false := by simp; omega
      have HT : Hid ((tailI op it).length = 0) := by unfold tailI; rw [if_neg (by omega)]; exact rfl
      clear h1 h2
      cases hw with
      | false =>
        have HW : Hid ((tailW false wr).length = 0) := by simp [tailW, Hid]
        have hEN : (((p + 2 : Nat)) : Int) = (N : Int) := by have := HW.out; have := HN.out; have := HP.out; have := HT.out; omega
        have hbe : ((((p + 2 : Nat)) : Int) == (N : Int)) = true := by simp; omega
        clear hEN
        go_wp2
        go_ret
        exact ⟨rfl, hb1⟩
      | true =>
        have HW : Hid (tailW true wr = 32 :: itoa wr) := by simp [tailW, Hid]
        have hNE : N = p + 2 + 1 + (itoa wr).length := by have h1 := HN.out; rw [HW.out] at h1; have := HP.out; have := HT.out; simp at h1; omega
        have x3 : w3.cell? ⟨g, p + 2, none⟩ = some (.int .u8 32) := cell_line hL (itoa tx ++ [32, op] ++ tailI op it) (itoa wr) 32 (by rw [lineOf, HW.out]) (p + 2) (by have := HT.out; have := HP.out; simp; omega)
        have hbe : ((((p + 2 : Nat)) : Int) == (N : Int)) = false := by simp; omega
        have hEi : (((p + 2 : Nat)) : Int) < N := by omega
        have hEi1 : (((p + 2 : Nat)) : Int) + 1 ≤ N := by omega
        have hEc : (((p + 2 : Nat)) : Int) + 1 < cap := by omega
        have HNE : Hid (N = p + 2 + 1 + (itoa wr).length) := hNE
        clear hNE
        go_wp2_with fail
        have hpl := parse_line hL (itoa tx ++ [32, op] ++ tailI op it ++ [32]) [] wr r0 r1 (by rw [lineOf, HW.out]; simp) (p + 2 + 1) (N - (p + 2 + 1)) (cap - (p + 2 + 1)) (by have := HT.out; have := HP.out; simp; omega) (by have := HNE.out; omega)
        refine hpl.mono ?_
        rintro e w4 ⟨rfl, rfl⟩
        go_wp2
        go_ret
        exact ⟨rfl, hb1⟩
end Go.Proofs.Qxb6600485aDoor
