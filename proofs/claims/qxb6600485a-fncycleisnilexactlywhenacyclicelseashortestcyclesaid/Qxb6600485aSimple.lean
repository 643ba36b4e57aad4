/-
  hasEdge_hb1, isSimpleCycle_hb1: their contracts.
-/
import Derived.Test.Qxb6600485aKahn
namespace Go.Proofs.Qxb6600485a
open Go.RowKit
set_option linter.unusedVariables false

theorem Try.info4 : (Try.prog.info? 4).map (fun i => (i.zero, i.size, i.bytes)) = some (some (.bool false), 1, 1) := by kernel_rfl

set_option maxHeartbeats 400000 in
theorem has28 (w : World) (a : Option Addr) (n c : Nat) (L : Nat → Nat) (E : Nat → Nat → Nat) (hr : Gr w a n c L E) (hL : ∀ i, i < n → L i ≤ 131072) (u t : Nat) (he : Ed n L E u t) :
    Calls Try.prog 28 #[.slice a n c, .int .i64 u, .int .i64 t] w fun e w' => e = .returned (.bool true) ∧ w' = w := by
  obtain ⟨hun, j0, hj0, hjt⟩ := he
  have hLu := hL u hun
  obtain ⟨rb, ro, x, d, rfl, r0, hx1, hx2⟩ := hr.node hun
  obtain ⟨xb, xo, rfl⟩ := hx1 (by omega)
  have HX : Hid (∀ j, j < L u → w.cell? ⟨xb, xo + j, none⟩ = some (.int .i64 ((E u j : Nat) : Int))) := hx2 xb xo rfl
  have hui : (u : Int) < n := by omega
  have HJ : Hid (E u j0 = t) := hjt
  clear hx1 hx2 hL hjt
  go_enter Try.func28, Try.ntmps28
  go_wp2
  go_loop [7] (fun i => ∃ k : Nat, k ≤ j0 ∧ i = .int .i64 k) (fun i => L u - (intOf i).toNat)
  case atStart => exact ⟨0, Nat.zero_le _, rfl⟩
  case round =>
    obtain ⟨k, hk, rfl⟩ := hrel
    have r1 := HX.out k (by omega)
    have hkL : (k : Int) < L u := by omega
    by_cases e : E u k = t
    · have hb : (((E u k : Nat) : Int) == (t : Int)) = true := by simp; omega
      clear e
      go_wp2
      go_ret
      exact ⟨rfl, rfl⟩
    · have hb : (((E u k : Nat) : Int) == (t : Int)) = false := by simp; omega
      have hk2 : k < j0 := by
        rcases Nat.lt_or_eq_of_le hk with h | h
        · exact h
        · exact absurd (by rw [h]; exact HJ.out) e
      clear e
      go_wp2
      go_round
      case rel => exact ⟨k + 1, by omega, by go_num⟩
      case measure => simp [intOf]; omega

/-- a simple closed walk of M edges, as a list of nodes -/
def Simple (n : Nat) (L : Nat → Nat) (E : Nat → Nat → Nat) (M : Nat) (C : Nat → Nat) : Prop :=
  1 ≤ M ∧ M ≤ n ∧ (∀ i, i ≤ M → C i < n) ∧ C 0 = C M ∧ (∀ i, i < M → Ed n L E (C i) (C (i + 1))) ∧ ∀ i j, i < j → j < M → C i ≠ C j

set_option maxRecDepth 100000 in
set_option maxHeartbeats 2000000 in
theorem simple20 (w : World) (a : Option Addr) (n c : Nat) (L : Nat → Nat) (E : Nat → Nat → Nat) (hr : Gr w a n c L E) (hn : n ≤ 4096) (hL : ∀ i, i < n → L i ≤ 131072) (cg cc M : Nat) (C : Nat → Nat) (hC : ∀ i, i < M + 1 → w.cell? ⟨cg, i, none⟩ = some (.int .i64 ((C i : Nat) : Int))) (hs : Simple n L E M C) :
    Calls Try.prog 20 #[.slice (some ⟨cg, 0, none⟩) (M + 1) cc, .slice a n c] w fun e w' => e = .returned (.bool true) ∧ Below w.heap.size w w' := by
  obtain ⟨h1, h2, h3, h4, h5, h6⟩ := hs
  have HL : Hid (∀ i, i < n → L i ≤ 131072) := hL
  have HC : Hid (∀ i, i < M + 1 → w.cell? ⟨cg, i, none⟩ = some (.int .i64 ((C i : Nat) : Int))) := hC
  have H3 : Hid (∀ i, i ≤ M → C i < n) := h3
  have H4 : Hid (C 0 = C M) := h4
  have H5 : Hid (∀ i, i < M → Ed n L E (C i) (C (i + 1))) := h5
  have H6 : Hid (∀ i j, i < j → j < M → C i ≠ C j) := h6
  clear hL hC h3 h4 h5 h6
  obtain ⟨i0, hi, hz0, hz1, hz2⟩ := info_parts Try.info4
  have hd0 : decide ((M : Int) + 1 < 2) = false := by simp; omega
  have hd1 : decide ((n : Int) + 1 < (M : Int) + 1) = false := by simp; omega
  go_enter Try.func20, Try.ntmps20
  go_wp2
  go_loop [6] (fun i => ∃ k : Nat, k ≤ M + 1 ∧ i = .int .i64 k) (fun i => M + 1 - (intOf i).toNat)
  case atStart => exact ⟨0, Nat.zero_le _, rfl⟩
  case round =>
    obtain ⟨k, hk, rfl⟩ := hrel
    by_cases hlt : k < M + 1
    · have r0 := HC.out k hlt
      have hb := H3.out k (by omega)
      have hk1 : (k : Int) < (M : Int) + 1 := by omega
      generalize C k = x at r0 hb
      have hx0 : decide ((x : Int) < 0) = false := by simp
      have hx1 : decide ((n : Int) ≤ (x : Int)) = false := by simp; omega
      go_wp2
      go_round
      case rel => exact ⟨k + 1, by omega, by go_num⟩
      case measure => simp [intOf]; omega
    · obtain rfl : k = M + 1 := by omega
      have c0 := HC.out 0 (by omega)
      have cM := HC.out M (by omega)
      rw [← H4.out] at cM
      have hM1 : IntKind.i64.wrap (M : Int) = M := by rw [IntKind.wrap_i64]; omega
      have hM0 : (0 : Int) < (M : Int) + 1 := by omega
      have hMM : (M : Int) < (M : Int) + 1 := by omega
      generalize C 0 = y at c0 cM
      go_wp2
      go_quiet (fail)
      go_wp2_with (at_make; refine wpList_make_full _ rfl _ _ 42 rfl w.heap.size 4 i0 _ 1 Try.underlying42 hi hz0 hz1 _ _ _ _ n rfl rfl rfl rfl ?b1 ?b2 ?b3 ?_)
      case b1 => rw [hz2]; omega
      case b2 => unfold maxLen; omega
      case b3 => simp
      intro w1 hown hgrow
      have hfill := ARow.made (.bool false) hown (toList_madeCells_one _ n)
      have hbel : Below w.heap.size w w1 := (below_drewN (Below.refl _ _) nq).grown hgrow (by simp) (by simp)
      have hsz : w.heap.size < w1.heap.size := (hown.lt _ rfl).2
      clear hown hgrow c0 cM
      go_wp2
      go_loopw [8] (fun i wr => ∃ (k : Nat) (S : Nat → Bool), k ≤ M ∧ i = .int .i64 k ∧ Below w.heap.size w wr ∧ w.heap.size < wr.heap.size ∧ ARow wr w.heap.size n (fun x => .bool (S x)) ∧ Hid (∀ x, x < n → S x = true → ∃ i, i < k ∧ C i = x)) (fun i _ => M - (intOf i).toNat)
      case atStart => exact ⟨0, fun _ => false, Nat.zero_le _, rfl, hbel, hsz, hfill, fun x _ h => by simp at h⟩
      case round =>
        clear hfill hbel hsz
        obtain ⟨k, S, hk, rfl, hbr, hszr, hS, hSi⟩ := hrel
        by_cases hlt : k < M
        · have r0 := cell_later hbr (HC.out k (by omega))
          have r1 := cell_later hbr (HC.out (k + 1) (by omega))
          have hn0 := H3.out k (by omega)
          have hcg := World.block_lt_of_cell? _ _ (HC.out k (by omega))
          simp only at hcg
          have hed := H5.out k hlt
          have hSk : S (C k) = false := by
            cases h : S (C k) with
            | false => rfl
            | true =>
              obtain ⟨i, hi, he⟩ := hSi.out _ hn0 h
              exact absurd he (H6.out i k hi hlt)
          have g0 : wr.cell? ⟨w.heap.size, C k, none⟩ = some (.bool false) := by have h := (hS _ hn0).1; simp only [hSk] at h; exact h
          have f0 := (hS _ hn0).2
          have hS2 : Hid (∀ x, x < n → upd S (C k) true x = true → ∃ i, i < k + 1 ∧ C i = x) := by
            intro x hx h
            by_cases e : x = C k
            · exact ⟨k, by omega, e.symm⟩
            · rw [upd_other _ _ _ _ e] at h
              obtain ⟨i, hi, he⟩ := hSi.out x hx h
              exact ⟨i, by omega, he⟩
          have hset : ARow (wr.setCell ⟨w.heap.size, C k, none⟩ (.bool true)) w.heap.size n (fun x => .bool (upd S (C k) true x)) := (hS.set (C k) (.bool true) hn0).congr fun j _ => by
            by_cases e : j = C k
            · subst e; rw [upd_same, upd_same]
            · rw [upd_other _ _ _ _ e, upd_other _ _ _ _ e]
          have HSET : Hid (ARow (wr.setCell ⟨w.heap.size, C k, none⟩ (.bool true)) w.heap.size n (fun x => .bool (upd S (C k) true x))) := hset
          have HED : Hid (Ed n L E (C k) (C (k + 1))) := hed
          have hbrS : Below w.heap.size w (wr.setCell ⟨w.heap.size, C k, none⟩ (.bool true)) := hbr.setCell (by simp) _
          have r0' : (wr.setCell ⟨w.heap.size, C k, none⟩ (.bool true)).cell? ⟨cg, k, none⟩ = some (.int .i64 ((C k : Nat) : Int)) := by rw [World.cell?_setCell_other _ _ _ _ (by simp)]; exact r0
          have r1' : (wr.setCell ⟨w.heap.size, C k, none⟩ (.bool true)).cell? ⟨cg, k + 1, none⟩ = some (.int .i64 ((C (k + 1) : Nat) : Int)) := by rw [World.cell?_setCell_other _ _ _ _ (by simp)]; exact r1
          have hkM : (k : Int) < (M : Int) := by omega
          have hkM1 : (k : Int) < (M : Int) + 1 := by omega
          have hkM2 : (k : Int) + 1 < (M : Int) + 1 := by omega
          have hwk : IntKind.i64.wrap ((k : Int) + 1) = (k : Int) + 1 := by rw [IntKind.wrap_i64]; omega
          have hCn : ((C k : Nat) : Int) < n := by omega
          clear hset hed hSk hS hSi
          generalize C k = x at *
          generalize C (k + 1) = y' at *
          go_wp2
          go_quiet ((go_at_call 28; exact Calls.quiet_of_same (has28 _ _ _ _ _ _ ((hr.later hbrS).later (below_drewN (Below.refl _ _) _)) HL.out _ _ HED.out)))
          go_wp2
          go_roundw
          case rel => exact ⟨k + 1, _, by omega, by go_num, below_drewN hbrS _, by simpa using hszr, HSET.out.below (below_drewN (Below.refl _ _) _) (by simpa using hszr), hS2⟩
          case measure => simp [intOf]; omega
        · go_wp2
          go_ret
          exact ⟨rfl, hbr⟩
end Go.Proofs.Qxb6600485a
