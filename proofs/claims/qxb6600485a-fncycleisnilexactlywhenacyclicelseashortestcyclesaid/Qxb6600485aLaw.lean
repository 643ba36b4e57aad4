/-
  ZZCycle and the law: their contracts.
-/
import Derived.Test.Qxb6600485aDfs
namespace Go.Proofs.Qxb6600485a
open Go.RowKit
set_option linter.unusedVariables false

set_option maxHeartbeats 1000000 in
theorem zz15 (w : World) (ib : Nat) (a : Option Addr) (n c : Nat) (L : Nat → Nat) (E : Nat → Nat → Nat) (hI : ARow w ib n (fun i => .int .i64 (i : Nat))) (hr : Gr w a n c L E) (hn : n ≤ 4096) (hL : ∀ i, i < n → L i ≤ 131072) (hE : ∀ i, i < n → ∀ j, j < L i → E i j < n) :
    Calls Try.prog 15 #[.slice (some ⟨ib, 0, none⟩) n n, .slice a n c] w fun e w' => CycAns n L E w w' e := by
  have hbA : Below w.heap.size w (w.alloc (.cells #[.slice (some ⟨ib, 0, none⟩) n n, .slice a n c] 40)) := (Below.refl _ _).alloc (Nat.le_refl _) _
  have hp : GPtr (w.alloc (.cells #[.slice (some ⟨ib, 0, none⟩) n n, .slice a n c] 40)) w.heap.size 0 ib a n c := by
    refine ⟨?_, ?_, ?_⟩
    · rw [World.cell?_alloc_at _ _ _ _ rfl]; rfl
    · rw [World.cell?_alloc_at _ _ _ _ rfl]; rfl
    · rcases Nat.eq_zero_or_pos n with h0 | h0
      · intro j hj; omega
      · exact hI.below hbA (hI.lt h0)
  have hcall := dfs27 _ w.heap.size 0 ib a n c L E hp (hr.later hbA) hn hL hE
  have HCALL : Hid (Calls Try.prog 27 #[.pointer (some ⟨w.heap.size, 0, none⟩)] (w.alloc (.cells #[.slice (some ⟨ib, 0, none⟩) n n, .slice a n c] 40)) fun e w' => CycAns n L E (w.alloc (.cells #[.slice (some ⟨ib, 0, none⟩) n n, .slice a n c] 40)) w' e) := hcall
  clear hcall hp hI hr
  go_enter Try.func15, Try.ntmps15
  go_wp2_with fail
  refine HCALL.out.mono ?_
  rintro e w2 ⟨h | ⟨cg, cc, M, C, rfl, hcc, hsim, hmin⟩, hb2⟩
  · obtain ⟨rfl, l, hl1, hl2⟩ := h
    have hb3 := hbA.trans (hb2.mono (by simp))
    have HT : Hid (∃ l, Topo (Ed n L E) l ∧ ∀ x, x < n → x ∈ l) := ⟨l, hl1, hl2⟩
    clear hl1 hl2
    go_wp2
    go_ret
    exact ⟨.inl ⟨rfl, HT.out⟩, hb3⟩
  · have hb3 := hbA.trans (hb2.mono (by simp))
    go_wp2
    go_ret
    exact ⟨.inr ⟨cg, cc, M, C, rfl, hcc, hsim, hmin⟩, hb3⟩

theorem GRow.toGr {w : World} {a : Option Addr} {n c : Nat} {L : Nat → Nat} {G : Nat → Nat → Int} (h : GRow w a n c L G) (hG : ∀ i, i < n → ∀ j, j < L i → 0 ≤ G i j ∧ G i j < n) : Gr w a n c L (fun i j => (G i j).toNat) := by
  refine ⟨h.1, fun hn => ?_⟩
  obtain ⟨rb, ro, ha, hc⟩ := h.2 hn
  refine ⟨rb, ro, ha, fun i hi => ?_⟩
  obtain ⟨x, d, h1, h2⟩ := hc i hi
  refine ⟨x, d, h1, h2.1, fun h0 => ?_⟩
  obtain ⟨xb, xo, hx, hxc⟩ := h2.2 h0
  refine ⟨xb, xo, hx, fun j hj => ?_⟩
  rw [hxc j hj]
  have := (hG i hi j hj).1
  show some (Value.int .i64 (G i j)) = some (Value.int .i64 (((G i j).toNat : Nat) : Int))
  rw [Int.toNat_of_nonneg this]

set_option maxRecDepth 100000 in
set_option maxHeartbeats 1000000 in
theorem law4 (w : World) (a : Option Addr) (n c : Nat) (L : Nat → Nat) (G : Nat → Nat → Int) (hr : GRow w a n c L G) :
    Calls Try.prog 4 #[.slice a n c] w fun e w' => e = .returned (.bool true) ∧ Below w.heap.size w w' := by
  have hnn := fun (wx : World) (a : Option Addr) (n c : Nat) => Lib.run_eql_slice_nil (P := Try.prog) wx 22 3 a n c 0 0 Try.underlying22
  go_enter Try.func4, Try.ntmps4
  go_wp2_with fail
  refine (bytes17 w a n c L G hr).mono ?_
  rintro e w1 ⟨⟨r1, rfl, _⟩, rfl⟩
  cases r1 with
  | false =>
    go_wp2
    go_ret
    exact ⟨rfl, Below.refl _ _⟩
  | true =>
  go_wp2_with fail
  refine (fits9 w1 a n c L G hr).mono ?_
  rintro e w2 ⟨⟨r2, rfl, h2⟩, rfl⟩
  cases r2 with
  | false =>
    clear h2
    go_wp2
    go_ret
    exact ⟨rfl, Below.refl _ _⟩
  | true =>
  obtain ⟨hn1, hL⟩ := h2 rfl
  have HL : Hid (∀ i, i < n → L i ≤ 131072) := hL
  clear h2 hL
  by_cases hn : n ≤ 4096
  · have hd : decide ((4096 : Int) < (n : Int)) = false := by simp; omega
    go_wp2_with fail
    refine (range10 w2 a n c L G hr hn1 HL.out).mono ?_
    rintro e w3 ⟨⟨r3, rfl, h3⟩, rfl⟩
    cases r3 with
    | false =>
      clear h3
      go_wp2
      go_ret
      exact ⟨rfl, Below.refl _ _⟩
    | true =>
    have HG : Hid (∀ i, i < n → ∀ j, j < L i → 0 ≤ G i j ∧ G i j < n) := h3 rfl
    clear h3
    go_wp2_with fail
    refine (clone13 w3 a n c L G hr (by omega) HL.out).mono ?_
    rintro e w4 ⟨a', c', rfl, hb4, hr4⟩
    obtain ⟨E, hgr4, hE⟩ : ∃ E : Nat → Nat → Nat, Gr w4 a' n c' L E ∧ ∀ i, i < n → ∀ j, j < L i → E i j < n := ⟨_, hr4.toGr HG.out, fun i hi j hj => by have := HG.out i hi j hj; omega⟩
    have HE : Hid (∀ i, i < n → ∀ j, j < L i → E i j < n) := hE
    clear hE hr4 HG hr
    go_wp2_with fail
    refine (ident18 w4 n hn1).mono ?_
    rintro e w5 ⟨rfl, hb5, hI⟩
    have hgr5 := hgr4.later hb5
    have hb05 := hb4.trans (hb5.mono hb4.size)
    go_wp2_with fail
    refine (zz15 w5 w4.heap.size a' n c' L E hI hgr5 hn HL.out HE.out).mono ?_
    clear hI hgr4
    rintro e w6 ⟨h6, hb6⟩
    have hgr6 := hgr5.later hb6
    have hb06 := hb05.trans (hb6.mono hb05.size)
    clear hgr5 hb6 hb05 hb5 hb4
    rcases h6 with ⟨rfl, hT⟩ | ⟨cg, cc, M, C, rfl, hcc, hsim, hmin⟩
    · have HT : Hid (∃ l, Topo (Ed n L E) l ∧ ∀ x, x < n → x ∈ l) := hT
      clear hT
      go_wp2_with fail
      refine (kahn19 w6 a' n c' L E hgr6 hn HL.out HE.out).mono ?_
      rintro e w7 ⟨⟨r, rfl, k1, _⟩, hb7⟩
      obtain rfl : r = true := k1 HT.out
      have hb07 := hb06.trans (hb7.mono hb06.size)
      clear k1
      go_wp2
      go_ret
      exact ⟨rfl, hb07⟩
    · have HS : Hid (Simple n L E M C) := hsim
      have HM : Hid (IsMin (Ed n L E) (C 0) M) := hmin
      have HC : Hid (∀ i, i < M + 1 → w6.cell? ⟨cg, i, none⟩ = some (.int .i64 ((C i : Nat) : Int))) := hcc
      have hM1 : 1 ≤ M := hsim.1
      have hMn : M ≤ n := hsim.2.1
      have hC0 : C 0 < n := hsim.2.2.1 0 (by omega)
      clear hsim hmin hcc
      have HW : Hid (∃ v m, v < n ∧ Wk (Ed n L E) (m + 1) v v) := ⟨C 0, M - 1, hC0, by rw [show M - 1 + 1 = M by omega]; exact HM.out.2.1⟩
      go_wp2_with fail
      refine (kahn19 w6 a' n c' L E hgr6 hn HL.out HE.out).mono ?_
      rintro e w7 ⟨⟨r, rfl, _, k1⟩, hb7⟩
      obtain rfl : r = false := k1 HW.out
      have hb07 := hb06.trans (hb7.mono hb06.size)
      have hgr7 := hgr6.later hb7
      have HC7 : Hid (∀ i, i < M + 1 → w7.cell? ⟨cg, i, none⟩ = some (.int .i64 ((C i : Nat) : Int))) := fun i hi => cell_later hb7 (HC.out i hi)
      clear k1 hgr6 hb06 hb7
      go_wp2_with fail
      refine (simple20 w7 a' n c' L E hgr7 hn HL.out cg cc M C HC7.out HS.out).mono ?_
      rintro e w8 ⟨rfl, hb8⟩
      have hb08 := hb07.trans (hb8.mono hb07.size)
      have hgr8 := hgr7.later hb8
      have c0 := cell_later hb8 (HC7.out 0 (by omega))
      clear hgr7 hb07 hb8 HC HC7
      have hwM : IntKind.i64.wrap ((M : Int) + 1 - 1) = M := by rw [IntKind.wrap_i64]; omega
      have hwM' : IntKind.i64.wrap (M : Int) = M := by rw [IntKind.wrap_i64]; omega
      have hMi : (0 : Int) < (M : Int) + 1 := by omega
      go_wp2_with fail
      refine (relax21 w8 a' n c' L E hgr8 hn HL.out HE.out (C 0) M hC0 HM.out hMn).mono ?_
      rintro e w9 ⟨rfl, hb9⟩
      have hb09 := hb08.trans (hb9.mono hb08.size)
      go_wp2
      go_ret
      exact ⟨rfl, hb09⟩
  · have hd : decide ((4096 : Int) < (n : Int)) = true := by simp; omega
    go_wp2
    go_ret
    exact ⟨rfl, Below.refl _ _⟩
end Go.Proofs.Qxb6600485a
