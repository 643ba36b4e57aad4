/-
  ZZAppendLine, fieldEnd_hb1, parseDec_hb1: their contracts.
-/
import Derived.Test.Qxb6600485aDoorLine
namespace Go.Proofs.Qxb6600485aDoor
open Go.RowKit
open Go.Lib (itoa decDigits byteCells)
set_option linter.unusedVariables false

set_option maxHeartbeats 400000 in
theorem zz5_any (w : World) (tx it wr : Int) (op : UInt8) (hw : Bool) (t0 : -9223372036854775808 ≤ tx) (t1 : tx ≤ 9223372036854775807) (i0 : -9223372036854775808 ≤ it) (i1 : it ≤ 9223372036854775807) (r0 : -9223372036854775808 ≤ wr) (r1 : wr ≤ 9223372036854775807)
    (ht : Tab w.heap.size w) :
    Calls Tryd.prog 5 #[.int .i64 tx, .int .u8 op.toNat, .int .i64 it, .int .i64 wr, .bool hw, .slice none 0 0] w fun e w' => ∃ v B, e = .returned v ∧ Owns w' B v (lineOf tx op it wr hw) ∧ Below w.heap.size w w' := by
  have hb0 : ∀ o, Below w.heap.size w (w.alloc o) := fun o => (Below.refl _ _).alloc (Nat.le_refl _) _
  go_enter Tryd.func5, Tryd.ntmps5
  go_wp2_with fail
  refine (line11_any _ tx it wr op hw t0 t1 i0 i1 r0 r1 (fun w' hb => ht w' ((hb0 _).trans (hb.mono (by simp))))).mono ?_
  rintro e w1 ⟨v, rfl, hO, hb⟩
  have hbw := (hb0 _).trans (hb.mono (by simp))
  clear hb
  go_wp2
  go_ret
  exact ⟨v, _, rfl, hO, hbw⟩

/-- bytes that lie in a block -/
def BRow (w : World) (g o : Nat) (l : List UInt8) : Prop := ∀ i (h : i < l.length), w.cell? ⟨g, o + i, none⟩ = some (.int .u8 (l[i].toNat : Nat))

set_option maxHeartbeats 400000 in
theorem fieldEnd6 (w : World) (g c : Nat) (l : List UInt8) (hl : l.length ≤ 1000) (h : BRow w g 0 l) (k0 e : Nat) (h0 : k0 ≤ e) (h1 : e ≤ l.length) (h2 : ∀ i (hi : i < l.length), k0 ≤ i → i < e → l[i].toNat ≠ 32) (h3 : ∀ (he : e < l.length), l[e].toNat = 32) :
    Calls Tryd.prog 6 #[.slice (some ⟨g, 0, none⟩) l.length c, .int .i64 k0] w fun r w' => r = .returned (.int .i64 e) ∧ w' = w := by
  go_enter Tryd.func6, Tryd.ntmps6
  go_wp2
  go_loop [5] (fun i => ∃ k : Nat, k0 ≤ k ∧ k ≤ e ∧ i = .int .i64 k) (fun i => l.length - (intOf i).toNat)
  case atStart => exact ⟨k0, Nat.le_refl _, h0, rfl⟩
  case round =>
    obtain ⟨k, hk0, hke, rfl⟩ := hrel
    by_cases hlt : k < l.length
    · have c0 := h k hlt
      rw [Nat.zero_add] at c0
      have hkl : (k : Int) < l.length := by omega
      have hd : decide ((k : Int) < l.length) = true := by simpa using hkl
      by_cases hke2 : k < e
      · have hne := h2 k hlt hk0 hke2
        have hb : (((l[k].toNat : Nat) : Int) != 32) = true := by simp; omega
        generalize l[k].toNat = x at c0 hb
        clear hne
        go_wp2
        go_round
        case rel => exact ⟨k + 1, by omega, by omega, by go_num⟩
        case measure => simp [intOf]; omega
      · obtain rfl : k = e := by omega
        have hne := h3 hlt
        have hb : (((l[k].toNat : Nat) : Int) != 32) = false := by simp; omega
        generalize l[k].toNat = x at c0 hb
        clear hne
        go_wp2
        go_ret
        exact ⟨rfl, rfl⟩
    · have hd : decide ((k : Int) < l.length) = false := by simp; omega
      go_wp2
      go_ret
      obtain rfl : k = e := by omega
      exact ⟨rfl, rfl⟩

/-- what a loop over digits has read -/
theorem val_step (ds : List UInt8) (k : Nat) (hk : k < ds.length) (hdig : ∀ b ∈ ds, isDig b) : valL (ds.take (k + 1)) = valL (ds.take k) * 10 + (ds[k].toNat - 48) ∧ 48 ≤ ds[k].toNat ∧ ds[k].toNat ≤ 57 := by
  have h := hdig _ (List.getElem_mem hk)
  refine ⟨?_, h.1, h.2⟩
  rw [List.take_succ_eq_append_getElem hk, valL_snoc]

set_option maxRecDepth 100000 in
set_option maxHeartbeats 2000000 in
theorem parse7_pos (w : World) (g o c : Nat) (ds : List UInt8) (h : BRow w g o ds) (hdig : ∀ b ∈ ds, isDig b) (hpos : 0 < ds.length) (hlen : ds.length ≤ 19) (hz : ds[0].toNat = 48 → ds.length = 1) (hv : valL ds ≤ 9223372036854775807) :
    Calls Tryd.prog 7 #[.slice (some ⟨g, o, none⟩) ds.length c] w fun r w' => r = .returned (.tuple #[.int .i64 (valL ds : Nat), .bool true]) ∧ w' = w := by
  have c0 := h 0 hpos
  rw [Nat.add_zero] at c0
  have hd0 := hdig _ (List.getElem_mem hpos)
  unfold isDig at hd0
  have hli : (0 : Int) < ds.length := by omega
  have hdec : decide ((0 : Int) < ds.length) = true := by simpa using hli
  have hb45 : (((ds[0].toNat : Nat) : Int) == 45) = false := by simp; omega
  have hlz : ((0 : Int) == (ds.length : Int)) = false := by simp; omega
  generalize hx : ds[0].toNat = x at c0 hd0 hb45 hz
  have HX : Hid (ds[0].toNat = x) := hx
  clear hx
  by_cases h48 : x = 48
  · have hb48 : ((x : Int) == 48) = true := by simp; omega
    have hl1 : decide ((1 : Int) < ds.length) = false := by have := hz h48; simp; omega
    clear hz h48
    go_enter Tryd.func7, Tryd.ntmps7
    go_wp2
    go_loop [6, 7] (fun u i => ∃ k : Nat, k ≤ ds.length ∧ i = .int .i64 k ∧ u = .int .u64 ((valL (ds.take k) : Nat) : Int)) (fun _ i => ds.length - (intOf i).toNat)
    case atStart => exact ⟨0, Nat.zero_le _, rfl, rfl⟩
    case round =>
      obtain ⟨k, hk, rfl, rfl⟩ := hrel
      have hvk := valL_take_le ds k
      by_cases hlt : k < ds.length
      · obtain ⟨hs1, hs2, hs3⟩ := val_step ds k hlt hdig
        have hv2 := valL_take_le ds (k + 1)
        have ck := h k hlt
        generalize ds[k].toNat = b at hs1 hs2 hs3 ck
        generalize valL (ds.take k) = V at *
        have HS : Hid (valL (ds.take (k + 1)) = V * 10 + (b - 48)) := hs1
        have hvb : (V : Int) * 10 + ((b : Int) - 48) ≤ 9223372036854775807 := by omega
        have hkl : (k : Int) < ds.length := by omega
        have hs2i : (48 : Int) ≤ b := by omega
        have hs3i : (b : Int) ≤ 57 := by omega
        have hd1 : decide ((b : Int) < 48) = false := by simp; omega
        clear hs1 hv2
        go_wp2
        go_round
        case rel => exact ⟨k + 1, by omega, by go_num, by rw [HS.out]; go_num⟩
        case measure => simp [intOf]; omega
      · have hk' : k = ds.length := by omega
        have HV : Hid (valL (ds.take k) = valL ds) := by rw [hk', List.take_length]; exact rfl
        generalize valL (ds.take k) = V at *
        have hVb : (V : Int) ≤ 9223372036854775807 := by omega
        have hd1 : decide ((9223372036854775808 : Int) < V) = false := by simp; omega
        have hd2 : ((V : Int) == 9223372036854775808) = false := by simp; omega
        go_wp2
        go_ret2
        rw [← HV.out]
        exact ⟨rfl, rfl⟩
  · have hb48 : ((x : Int) == 48) = false := by simp; omega
    clear hz h48
    go_enter Tryd.func7, Tryd.ntmps7
    go_wp2
    go_loop [6, 7] (fun u i => ∃ k : Nat, k ≤ ds.length ∧ i = .int .i64 k ∧ u = .int .u64 ((valL (ds.take k) : Nat) : Int)) (fun _ i => ds.length - (intOf i).toNat)
    case atStart => exact ⟨0, Nat.zero_le _, rfl, rfl⟩
    case round =>
      obtain ⟨k, hk, rfl, rfl⟩ := hrel
      have hvk := valL_take_le ds k
      by_cases hlt : k < ds.length
      · obtain ⟨hs1, hs2, hs3⟩ := val_step ds k hlt hdig
        have hv2 := valL_take_le ds (k + 1)
        have ck := h k hlt
        generalize ds[k].toNat = b at hs1 hs2 hs3 ck
        generalize valL (ds.take k) = V at *
        have HS : Hid (valL (ds.take (k + 1)) = V * 10 + (b - 48)) := hs1
        have hvb : (V : Int) * 10 + ((b : Int) - 48) ≤ 9223372036854775807 := by omega
        have hkl : (k : Int) < ds.length := by omega
        have hs2i : (48 : Int) ≤ b := by omega
        have hs3i : (b : Int) ≤ 57 := by omega
        have hd1 : decide ((b : Int) < 48) = false := by simp; omega
        clear hs1 hv2
        go_wp2
        go_round
        case rel => exact ⟨k + 1, by omega, by go_num, by rw [HS.out]; go_num⟩
        case measure => simp [intOf]; omega
      · have hk' : k = ds.length := by omega
        have HV : Hid (valL (ds.take k) = valL ds) := by rw [hk', List.take_length]; exact rfl
        generalize valL (ds.take k) = V at *
        have hVb : (V : Int) ≤ 9223372036854775807 := by omega
        have hd1 : decide ((9223372036854775808 : Int) < V) = false := by simp; omega
        have hd2 : ((V : Int) == 9223372036854775808) = false := by simp; omega
        go_wp2
        go_ret2
        rw [← HV.out]
        exact ⟨rfl, rfl⟩

theorem negwrap (V : Nat) (h0 : 0 < V) (h1 : V ≤ 9223372036854775808) : wrap64 (IntKind.u64.wrap (-(V : Int))) = -(V : Int) := by
  rw [IntKind.wrap_u64]
  unfold wrap64
  omega
theorem ret2_int {k : IntKind} {a b : Int} {t : Bool} (h : a = b) : Ending.returned (.tuple #[.int k a, .bool t]) = .returned (.tuple #[.int k b, .bool t]) := by rw [h]

set_option maxRecDepth 100000 in
set_option maxHeartbeats 2000000 in
theorem parse7_neg (w : World) (g o c : Nat) (ds : List UInt8) (h : BRow w g o (45 :: ds)) (hdig : ∀ b ∈ ds, isDig b) (hpos : 0 < ds.length) (hlen : ds.length ≤ 19) (hz : 49 ≤ ds[0].toNat) (hv : valL ds ≤ 9223372036854775808) (hv0 : 0 < valL ds) :
    Calls Tryd.prog 7 #[.slice (some ⟨g, o, none⟩) (ds.length + 1) c] w fun r w' => r = .returned (.tuple #[.int .i64 (-((valL ds : Nat) : Int)), .bool true]) ∧ w' = w := by
  have c0 := h 0 (by simp)
  rw [Nat.add_zero] at c0
  simp only [List.getElem_cons_zero, show (45 : UInt8).toNat = 45 from rfl] at c0
  have c1 := h 1 (by simp; omega)
  simp only [List.getElem_cons_succ] at c1
  have hd0 := hdig _ (List.getElem_mem hpos)
  unfold isDig at hd0
  have hli : (0 : Int) < (ds.length : Int) + 1 := by omega
  have hli1 : (1 : Int) < (ds.length : Int) + 1 := by omega
  have hdec : decide ((0 : Int) < (ds.length : Int) + 1) = true := decide_eq_true hli
  have hlz : ((1 : Int) == (ds.length : Int) + 1) = false := by simp; omega
  generalize hx : ds[0].toNat = x at c1 hd0 hz
  have HX : Hid (ds[0].toNat = x) := hx
  clear hx
  have hb48 : ((x : Int) == 48) = false := by simp; omega
  clear hz
  go_enter Tryd.func7, Tryd.ntmps7
  go_wp2
  go_loop [6, 7] (fun u i => ∃ k : Nat, k ≤ ds.length ∧ i = .int .i64 ((k : Int) + 1) ∧ u = .int .u64 ((valL (ds.take k) : Nat) : Int)) (fun _ i => ds.length + 1 - (intOf i).toNat)
  case atStart => exact ⟨0, Nat.zero_le _, rfl, rfl⟩
  case round =>
    obtain ⟨k, hk, rfl, rfl⟩ := hrel
    have hvk := valL_take_le ds k
    by_cases hlt : k < ds.length
    · obtain ⟨hs1, hs2, hs3⟩ := val_step ds k hlt hdig
      have hv2 := valL_take_le ds (k + 1)
      have ck := h (k + 1) (by simp; omega)
      simp only [List.getElem_cons_succ] at ck
      generalize ds[k].toNat = b at hs1 hs2 hs3 ck
      generalize valL (ds.take k) = V at *
      have HS : Hid (valL (ds.take (k + 1)) = V * 10 + (b - 48)) := hs1
      have hvb : (V : Int) * 10 + ((b : Int) - 48) ≤ 9223372036854775808 := by omega
      have hkl : (k : Int) < ds.length := by omega
      have hkl1 : (k : Int) + 1 < (ds.length : Int) + 1 := by omega
      have hs2i : (48 : Int) ≤ b := by omega
      have hs3i : (b : Int) ≤ 57 := by omega
      have hd1 : decide ((b : Int) < 48) = false := by simp; omega
      clear hs1 hv2
      go_wp2
      go_round
      case rel => exact ⟨k + 1, by omega, by go_num, by rw [HS.out]; go_num⟩
      case measure => simp [intOf]; omega
    · have hk' : k = ds.length := by omega
      have HV : Hid (valL (ds.take k) = valL ds) := by rw [hk', List.take_length]; exact rfl
      have hV0 : 0 < valL (ds.take k) := by rw [HV.out]; exact hv0
      generalize valL (ds.take k) = V at *
      have hVb : (V : Int) ≤ 9223372036854775808 := by omega
      have hd1 : decide ((9223372036854775808 : Int) < V) = false := by simp; omega
      go_wp2
      go_ret2
      rw [← HV.out]
      exact ⟨ret2_int (negwrap V (by omega) (by omega)), rfl⟩

theorem head_get (l : List UInt8) (hp : 0 < l.length) (h : ∀ b t, l = b :: t → 49 ≤ b.toNat) : 49 ≤ l[0].toNat := by
  match l, hp, h with
  | b :: t, _, h => exact h b t rfl

/-- a numeral is read back -/
theorem parse7_itoa (w : World) (g o c : Nat) (n : Int) (h0 : -9223372036854775808 ≤ n) (h1 : n ≤ 9223372036854775807) (h : BRow w g o (itoa n)) :
    Calls Tryd.prog 7 #[.slice (some ⟨g, o, none⟩) (itoa n).length c] w fun r w' => r = .returned (.tuple #[.int .i64 n, .bool true]) ∧ w' = w := by
  by_cases hn : n < 0
  · have e : itoa n = 45 :: decDigits n.natAbs := by unfold itoa; rw [if_pos hn]
    rw [e] at h ⊢
    have hv := dec_val n.natAbs
    have hp : 0 < (decDigits n.natAbs).length := List.length_pos_iff.2 (dec_ne _)
    have hd : 49 ≤ ((decDigits n.natAbs)[0]'hp).toNat := head_get _ hp (dec_head n.natAbs (by omega))
    have := parse7_neg w g o c (decDigits n.natAbs) h (dec_dig _) hp (dec_len _ (by omega)) hd (by omega) (by omega)
    rw [hv, show (-((n.natAbs : Nat) : Int)) = n by omega] at this
    exact this
  · have e : itoa n = decDigits n.toNat := by unfold itoa; rw [if_neg hn]
    rw [e] at h ⊢
    have hv := dec_val n.toNat
    have hp : 0 < (decDigits n.toNat).length := List.length_pos_iff.2 (dec_ne _)
    have hz : ((decDigits n.toNat)[0]'hp).toNat = 48 → (decDigits n.toNat).length = 1 := by
      intro h48
      by_cases h0' : n.toNat = 0
      · rw [h0', dec_zero]; rfl
      · have := head_get _ hp (dec_head n.toNat (by omega))
        omega
    have := parse7_pos w g o c (decDigits n.toNat) h (dec_dig _) hp (dec_len _ (by omega)) hz (by omega)
    rw [hv, show ((n.toNat : Nat) : Int) = n by omega] at this
    exact this
end Go.Proofs.Qxb6600485aDoor
