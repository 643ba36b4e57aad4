/-
  kahnAcyclic_hb1: its contract.
-/
import Derived.Test.Qxb6600485aBase
import Derived.Test.Qxb6600485aKahnPlain
namespace Go.Proofs.Qxb6600485a
open Go.RowKit
set_option linter.unusedVariables false

/-- the graph in memory, its targets as numbers -/
def Gr (w : World) (a : Option Addr) (n c : Nat) (L : Nat → Nat) (E : Nat → Nat → Nat) : Prop := GRow w a n c L (fun i j => ((E i j : Nat) : Int))
theorem Gr.later {w w' : World} {a : Option Addr} {n c : Nat} {L : Nat → Nat} {E : Nat → Nat → Nat} (h : Gr w a n c L E) (hb : Below w.heap.size w w') : Gr w' a n c L E := GRow.later h hb

/-- one node's edges -/
theorem Gr.node {w : World} {a : Option Addr} {n c : Nat} {L : Nat → Nat} {E : Nat → Nat → Nat} (h : Gr w a n c L E) {u : Nat} (hu : u < n) :
    ∃ rb ro x d, a = some ⟨rb, ro, none⟩ ∧ w.cell? ⟨rb, ro + u, none⟩ = some (.slice x (L u) d) ∧ (0 < L u → ∃ xb xo, x = some ⟨xb, xo, none⟩) ∧ ∀ xb xo, x = some ⟨xb, xo, none⟩ → ∀ j, j < L u → w.cell? ⟨xb, xo + j, none⟩ = some (.int .i64 ((E u j : Nat) : Int)) := by
  obtain ⟨rb, ro, ha, hc⟩ := h.2 (by omega)
  obtain ⟨x, d, h1, h2⟩ := hc u hu
  refine ⟨rb, ro, x, d, ha, h1, fun hl => ?_, fun xb xo hx j hj => ?_⟩
  · obtain ⟨xb, xo, hx, _⟩ := h2.2 hl
    exact ⟨xb, xo, hx⟩
  · obtain ⟨xb', xo', hx', hcell⟩ := h2.2 (by omega)
    rw [hx] at hx'
    obtain ⟨rfl, rfl⟩ : xb = xb' ∧ xo = xo' := by simpa using hx'
    exact hcell j hj

/-- the sums that the first loops reckon -/
def sumTo (L : Nat → Nat) (E : Nat → Nat → Nat) (k m x : Nat) : Nat := rem L E [] x k + ec E k x m

theorem iv (D : Nat → Nat) (k x : Nat) (g : Nat → Value) (h : ∀ j, g j = .int .i64 ((D j : Nat) : Int)) : ∀ j, upd g k (.int .i64 ((x : Nat) : Int)) j = .int .i64 ((upd D k x j : Nat) : Int) := by
  intro j
  by_cases e : j = k
  · subst e; rw [upd_same, upd_same]
  · rw [upd_other _ _ _ _ e, upd_other _ _ _ _ e]; exact h j

theorem ARow.setNat {w : World} {g n : Nat} {D : Nat → Nat} (h : ARow w g n (fun j => .int .i64 ((D j : Nat) : Int))) (k x : Nat) (hk : k < n) : ARow (w.setCell ⟨g, k, none⟩ (.int .i64 ((x : Nat) : Int))) g n (fun j => .int .i64 ((upd D k x j : Nat) : Int)) :=
  (h.set k _ hk).congr fun j _ => iv D k x _ (fun _ => rfl) j

theorem one_new (W : World) (N : Nat) (x : Value) (t : TypeId) (hN : N = W.heap.size) : ∀ j u, [x][j]? = some u → (W.alloc (.cells #[x] t)).cell? ((⟨N, 0, none⟩ : Addr).add j) = some u := by
  intro j u hj
  match j, hj with
  | 0, hj => simp at hj; subst hj; rw [Addr.add_lit, World.cell?_alloc_at _ _ _ _ hN]; rfl

set_option maxRecDepth 100000 in
set_option maxHeartbeats 2000000 in
theorem kahn19 (w : World) (a : Option Addr) (n c : Nat) (L : Nat → Nat) (E : Nat → Nat → Nat) (hr : Gr w a n c L E) (hn : n ≤ 4096) (hL : ∀ i, i < n → L i ≤ 131072) (hE : ∀ i, i < n → ∀ j, j < L i → E i j < n) :
    Calls Try.prog 19 #[.slice a n c] w fun e w' => RetB (fun r => ((∃ l, Topo (Ed n L E) l ∧ ∀ x, x < n → x ∈ l) → r = true) ∧ ((∃ v m, v < n ∧ Wk (Ed n L E) (m + 1) v v) → r = false)) e ∧ Below w.heap.size w w' := by
  have HL : Hid (∀ i, i < n → L i ≤ 131072) := hL
  have HE : Hid (∀ i, i < n → ∀ j, j < L i → E i j < n) := hE
  clear hL hE
  obtain ⟨i0, hi, hz0, hz1, hz2⟩ := info_parts Try.info3
  go_enter Try.func19, Try.ntmps19
  go_wp2_with (at_make; refine wpList_make_full _ rfl _ _ 22 rfl w.heap.size 3 i0 _ 1 Try.underlying22 hi hz0 hz1 _ _ _ _ n rfl rfl rfl rfl ?b1 ?b2 ?b3 ?_)
  case b1 => rw [hz2]; omega
  case b2 => unfold maxLen; omega
  case b3 => exact Nat.le_refl _
  intro w1 hown hgrow
  have hfill : ARow w1 w.heap.size n (fun j => .int .i64 (((fun _ => 0 : Nat → Nat) j : Nat) : Int)) := ARow.made (.int .i64 0) hown (toList_madeCells_one _ n)
  have hbel : Below w.heap.size w w1 := (Below.refl _ _).grown hgrow (Nat.le_refl _) (by simp)
  have hsz : w.heap.size < w1.heap.size := (hown.lt _ rfl).2
  clear hown hgrow
  go_wp2
  go_loopw [5, 6] (fun i _ wr => ∃ k : Nat, k ≤ n ∧ i = .int .i64 k ∧ Below w.heap.size w wr ∧ w.heap.size < wr.heap.size ∧ ∃ D : Nat → Nat, ARow wr w.heap.size n (fun j => .int .i64 ((D j : Nat) : Int)) ∧ Hid (∀ x, x < n → D x = sumTo L E k 0 x)) (fun i _ _ => n - (intOf i).toNat)
  case atStart => exact ⟨0, Nat.zero_le _, rfl, hbel, hsz, _, hfill, fun x hx => by simp [sumTo, rem, ec]⟩
  case round =>
    clear hfill hbel hsz
    obtain ⟨k, hk, rfl, hbr, hszr, D, hD, hDs⟩ := hrel
    by_cases hlt : k < n
    · have hLk := HL.out k hlt
      go_wp2
      go_loopw [6] (fun i wq => ∃ m : Nat, m ≤ L k ∧ i = .int .i64 m ∧ Below w.heap.size w wq ∧ w.heap.size < wq.heap.size ∧ ∃ D : Nat → Nat, ARow wq w.heap.size n (fun j => .int .i64 ((D j : Nat) : Int)) ∧ Hid (∀ x, x < n → D x = sumTo L E k m x)) (fun i _ => L k - (intOf i).toNat)
      case atStart => exact ⟨0, Nat.zero_le _, rfl, hbr, hszr, D, hD, hDs⟩
      case round =>
        clear hbr hszr hD hDs D
        obtain ⟨m, hm, rfl, hbr, hszr, D, hD, hDs⟩ := hrel
        obtain ⟨rb, ro, x, d, rfl, r0, hx1, hx2⟩ := (hr.later hbr).node hlt
        by_cases hmt : m < L k
        · obtain ⟨xb, xo, rfl⟩ := hx1 (by omega)
          have r1 := hx2 xb xo rfl m hmt
          have hwn := HE.out k hlt m hmt
          have hDw := hDs.out _ hwn
          have hb1 := rem_le L E [] (E k m) 131072 k (fun i hi => HL.out i (by omega))
          have hb2 := ec_le E k (E k m) m
          have hDb : D (E k m) ≤ 600000000 := by rw [hDw]; unfold sumTo; omega
          have g0 : wr.cell? ⟨w.heap.size, E k m, none⟩ = some (.int .i64 ((D (E k m) : Nat) : Int)) := (hD _ hwn).1
          have f0 := (hD _ hwn).2
          have hs2 : Hid (∀ x, x < n → upd D (E k m) (D (E k m) + 1) x = sumTo L E k (m + 1) x) := by
            intro x hx
            by_cases e : x = E k m
            · subst e; rw [upd_same, hDw]; simp [sumTo, ec]; omega
            · rw [upd_other _ _ _ _ e, hDs.out x hx]; simp [sumTo, ec, Ne.symm e]
          have HD : Hid (ARow wr w.heap.size n (fun j => .int .i64 ((D j : Nat) : Int))) := hD
          have hwi : ((E k m : Nat) : Int) < n := by omega
          clear hx1 hx2 hD hDs hDw hb1 hb2
          have hset := HD.out.setNat (E k m) (D (E k m) + 1) hwn
          rw [show ((D (E k m) + 1 : Nat) : Int) = (D (E k m) : Int) + 1 by omega] at hset
          generalize E k m = t at *
          generalize hdt : D t = dt at *
          have HDT : Hid (D t = dt) := hdt
          clear hdt
          have HSET : Hid (ARow (wr.setCell ⟨w.heap.size, t, none⟩ (.int .i64 ((dt : Int) + 1))) w.heap.size n (fun j => .int .i64 ((upd D t (dt + 1) j : Nat) : Int))) := hset
          clear hset
          go_wp2
          go_roundw
          case rel => exact ⟨m + 1, by omega, by go_num, hbr.setCell (by simp) _, by simpa using hszr, _, HSET.out, hs2⟩
          case measure => simp [intOf]; omega
        · clear hx1 hx2
          go_wp2
          go_roundw
          case rel => exact ⟨k + 1, by omega, by go_num, hbr, hszr, D, hD, fun x hx => by rw [hDs.out x hx, show m = L k by omega]; simp [sumTo, rem_nil_ext, ec]⟩
          case measure => simp [intOf]; omega
    · obtain rfl : k = n := by omega
      go_wp2_with (at_make; refine wpList_make_own _ rfl _ _ 22 rfl wr.heap.size 3 i0 _ 1 Try.underlying22 hi hz0 hz1 _ _ _ k rfl rfl rfl ?b1 ?b2 ?b3 ?_)
      case b1 => rw [hz2]; omega
      case b2 => unfold maxLen; omega
      case b3 => exact Nat.le_refl _
      intro w2 hown2 hgrow2
      have hb2 : Below wr.heap.size wr w2 := (Below.refl _ _).grown hgrow2 (Nat.le_refl _) (by simp)
      have hbw2 := hbr.trans (hb2.mono hbr.size)
      have hD2 := hD.below hb2 hszr
      have hg2 : w.heap.size < wr.heap.size := hszr
      have hg2' : wr.heap.size < w2.heap.size := (hown2.lt _ rfl).2
      generalize wr.heap.size = g2 at *
      clear hgrow2 hb2 hbr hD
      go_wp2
      go_loopw [7, 8] (fun v i wr => ∃ (t : Nat) (q : List Nat), t ≤ k ∧ i = .int .i64 t ∧ v = .slice (some ⟨g2, 0, none⟩) q.length k ∧ q.length ≤ t ∧ Below w.heap.size w wr ∧ g2 < wr.heap.size ∧ ARow wr w.heap.size k (fun j => .int .i64 ((D j : Nat) : Int)) ∧
          wr.ownsRow g2 3 1 (.slice (some ⟨g2, 0, none⟩) q.length k) q.length (q.map fun x => Value.int .i64 ((x : Nat) : Int)) ∧ Hid (∀ x, x ∈ q ↔ x < t ∧ D x = 0) ∧ Hid (Topo (fun a b => Ed k L E b a) q.reverse)) (fun _ i _ => k - (intOf i).toNat)
      case atStart => exact ⟨0, [], Nat.zero_le _, rfl, rfl, Nat.le_refl _, hbw2, hg2', hD2, hown2, by simp [Hid], trivial⟩
      case round =>
        clear hown2 hD2 hbw2 hg2'
        obtain ⟨t, q, ht, rfl, rfl, hqt, hbr, hg2', hD2, hown2, hq, hT⟩ := hrel
        by_cases htt : t < k
        · have g0 : wr.cell? ⟨w.heap.size, t, none⟩ = some (.int .i64 ((D t : Nat) : Int)) := (hD2 t htt).1
          by_cases hz : D t = 0
          · have hq2 : Hid (∀ x, x ∈ q ++ [t] ↔ x < t + 1 ∧ D x = 0) := by
              intro x
              rw [List.mem_append, hq.out x, List.mem_singleton]
              constructor
              · rintro (⟨h1, h2⟩ | rfl)
                · exact ⟨by omega, h2⟩
                · exact ⟨by omega, hz⟩
              · rintro ⟨h1, h2⟩
                by_cases e : x = t
                · exact .inr e
                · exact .inl ⟨by omega, h2⟩
            have hT2 : Hid (Topo (fun a b => Ed k L E b a) (q ++ [t]).reverse) := by
              rw [List.reverse_append]
              refine ⟨fun v hv => ?_, fun h => ?_, hT.out⟩
              · obtain ⟨hvn, i, hi, he⟩ := hv
                have h1 := hDs.out t htt
                have h2 := rem_of (L := L) (E := E) (S := []) (w := t) (u := v) (by simp) hi he hvn
                unfold sumTo at h1
                omega
              · have := (hq.out t).1 (List.mem_reverse.1 h)
                omega
            have hzb : (((D t : Nat) : Int) == 0) = true := by simp [hz]
            have HZ : Hid (D t = 0) := hz
            clear hz
            go_wp2_with (at_builtin; refine wpList_append_fits _ rfl _ _ 22 rfl g2 3 i0 1 Try.underlying22 hi hz1 g2 q.length k _ rfl (hown2.alloc _) ⟨wr.heap.size, 0, none⟩ 1 1 [.int .i64 ((t : Nat) : Int)] rfl rfl ?c1 ?c2 ?c3 ?_)
            case c1 => exact cell_one_new _ _ _
            case c2 => intro u hu; simp at hu; subst hu; rfl
            case c3 => omega
            intro w5 hown5 hgrow5
            have hb5 : Below g2 wr w5 := ((Below.refl _ _).alloc (by omega) _).grown hgrow5 (by simp; omega) (by simp)
            have hbr5 := hbr.trans (hb5.mono (by omega))
            have hD5 := hD2.below hb5 hg2
            have hg5 : g2 < w5.heap.size := Nat.lt_of_lt_of_le hg2' hb5.size
            have hown6 : w5.ownsRow g2 3 1 (.slice (some ⟨g2, 0, none⟩) (q ++ [t]).length k) (q ++ [t]).length ((q ++ [t]).map fun x => Value.int .i64 ((x : Nat) : Int)) := by simpa using hown5
            clear hown5 hgrow5 hown2 hb5 hD2
            go_wp2
            go_roundw
            case rel => exact ⟨t + 1, q ++ [t], by omega, by go_num, by simp, by simp; omega, hbr5, hg5, hD5, hown6, hq2, hT2⟩
            case measure => simp [intOf]; omega
          · have hq2 : Hid (∀ x, x ∈ q ↔ x < t + 1 ∧ D x = 0) := by
              intro x
              rw [hq.out x]
              constructor
              · rintro ⟨h1, h2⟩; exact ⟨by omega, h2⟩
              · rintro ⟨h1, h2⟩
                by_cases e : x = t
                · subst e; exact absurd h2 hz
                · exact ⟨by omega, h2⟩
            have hzb : (((D t : Nat) : Int) == 0) = false := by simp; omega
            clear hz
            go_wp2
            go_roundw
            case rel => exact ⟨t + 1, q, by omega, by go_num, rfl, by omega, hbr, hg2', hD2, hown2, hq2, hT⟩
            case measure => simp [intOf]; omega
        · have hKI : Hid (KI k L E q (q.take 0) (fun _ => 0) D) := by
            refine ⟨hT.out, fun x hx => Nat.lt_of_lt_of_le ((hq.out x).1 hx).1 ht, fun x hx => ?_, fun x hx => ?_⟩
            · rw [hq.out x]
              exact ⟨fun h => h.2, fun h => ⟨by omega, h⟩⟩
            · rw [hDs.out x hx]; simp [sumTo, ec]
          clear hq hT hDs
          go_wp2
          go_loopw [7, 9, 10, 11, 12, 13] (fun v rm hd _ _ _ wr => ∃ (h : Nat) (q : List Nat) (D : Nat → Nat), h ≤ q.length ∧ q.length ≤ k ∧ rm = .int .i64 h ∧ hd = .int .i64 h ∧ v = .slice (some ⟨g2, 0, none⟩) q.length k ∧ Below w.heap.size w wr ∧ g2 < wr.heap.size ∧ ARow wr w.heap.size k (fun j => .int .i64 ((D j : Nat) : Int)) ∧
              wr.ownsRow g2 3 1 (.slice (some ⟨g2, 0, none⟩) q.length k) q.length (q.map fun x => Value.int .i64 ((x : Nat) : Int)) ∧ Hid (KI k L E q (q.take h) (fun _ => 0) D)) (fun _ _ hd _ _ _ _ => k - (intOf hd).toNat)
          case atStart => exact ⟨0, q, D, Nat.zero_le _, by omega, rfl, rfl, rfl, hbr, hg2', hD2, hown2, hKI⟩
          case round =>
            clear hbr hg2' hD2 hown2 hKI hqt
            obtain ⟨h, q, D, hh, hqk, rfl, rfl, rfl, hbr, hg2', hD2, hown2, hKI⟩ := hrel
            by_cases hlt : h < q.length
            · have hun := hKI.out.2.1 _ (List.getElem_mem hlt)
              have hKo := hKI.out.open hlt
              have hus : q[h] ∈ q.take (h + 1) := by rw [take_snoc1 q h hlt]; exact List.mem_append.2 (.inr (List.mem_singleton.2 rfl))
              have q0 : wr.cell? ⟨g2, h, none⟩ = some (.int .i64 ((q[h] : Nat) : Int)) := by
                rw [World.ownsRow.cellAt hown2 h (by omega)]
                simp [hlt]
              generalize q[h] = u at hun hKo hus q0
              have hKI2 : Hid (KI k L E q (q.take (h + 1)) (fun x => ec E u x (L u) - ec E u x 0) D) := hKo
              have hUS : Hid (u ∈ q.take (h + 1)) := hus
              have hLu := HL.out u hun
              have hui : (u : Int) < k := by omega
              clear hKo hKI hus
              go_wp2
              go_loopw [7, 12, 13] (fun v jj _ wr => ∃ (j : Nat) (q : List Nat) (D : Nat → Nat), j ≤ L u ∧ h < q.length ∧ q.length ≤ k ∧ jj = .int .i64 j ∧ v = .slice (some ⟨g2, 0, none⟩) q.length k ∧ Below w.heap.size w wr ∧ g2 < wr.heap.size ∧ ARow wr w.heap.size k (fun j => .int .i64 ((D j : Nat) : Int)) ∧
                  wr.ownsRow g2 3 1 (.slice (some ⟨g2, 0, none⟩) q.length k) q.length (q.map fun x => Value.int .i64 ((x : Nat) : Int)) ∧ Hid (KI k L E q (q.take (h + 1)) (fun x => ec E u x (L u) - ec E u x j) D) ∧ Hid (u ∈ q.take (h + 1))) (fun _ jj _ _ => L u - (intOf jj).toNat)
              case atStart => exact ⟨0, q, D, Nat.zero_le _, hlt, hqk, rfl, rfl, hbr, hg2', hD2, hown2, hKI2, hUS⟩
              case round =>
                clear hbr hg2' hD2 hown2 hKI2 hUS q0 hlt hqk hh
                obtain ⟨j, q, D, hj, hlt, hqk, rfl, rfl, hbr, hg2', hD2, hown2, hKI2, hUS⟩ := hrel
                obtain ⟨rb, ro, x, d, rfl, r0, hx1, hx2⟩ := (hr.later hbr).node hun
                by_cases hjt : j < L u
                · obtain ⟨xb, xo, rfl⟩ := hx1 (by omega)
                  have r1 := hx2 xb xo rfl j hjt
                  have hwn := HE.out u hun j hjt
                  obtain ⟨e1, e2, e3, e4⟩ := hKI2.out.edge hjt hwn hUS.out (fun x hx => List.mem_of_mem_take hx) hun
                  have hDw := hKI2.out.2.2.2 _ hwn
                  have hb1 := rem_le L E (q.take (h + 1)) (E u j) 131072 k (fun i hi => HL.out i (by omega))
                  have hb2 := ec_le E u (E u j) (L u)
                  have hDb : D (E u j) ≤ 600000000 := by simp only at hDw; omega
                  have g0 : wr.cell? ⟨w.heap.size, E u j, none⟩ = some (.int .i64 ((D (E u j) : Nat) : Int)) := (hD2 _ hwn).1
                  have f0 := (hD2 _ hwn).2
                  have hset := hD2.setNat (E u j) (D (E u j) - 1) hwn
                  rw [show ((D (E u j) - 1 : Nat) : Int) = (D (E u j) : Int) - 1 by omega] at hset
                  have hwi : ((E u j : Nat) : Int) < k := by omega
                  have H3 : Hid (D (E u j) - 1 ≠ 0 → KI k L E q (q.take (h + 1)) (fun x => ec E u x (L u) - ec E u x (j + 1)) (upd D (E u j) (D (E u j) - 1))) := e3
                  have H4 : Hid (D (E u j) - 1 = 0 → KI k L E (q ++ [E u j]) (q.take (h + 1)) (fun x => ec E u x (L u) - ec E u x (j + 1)) (upd D (E u j) (D (E u j) - 1))) := e4
                  clear hx1 hx2 e3 e4 hDw hb1 hb2 e2
                  generalize E u j = t at *
                  generalize hdt : D t = dt at *
                  have HSET : Hid (ARow (wr.setCell ⟨w.heap.size, t, none⟩ (.int .i64 ((dt : Int) - 1))) w.heap.size k (fun j => .int .i64 ((upd D t (dt - 1) j : Nat) : Int))) := hset
                  have hownS : (wr.setCell ⟨w.heap.size, t, none⟩ (.int .i64 ((dt : Int) - 1))).ownsRow g2 3 1 (.slice (some ⟨g2, 0, none⟩) q.length k) q.length (q.map fun x => Value.int .i64 ((x : Nat) : Int)) := ownsRow_setCell_below hown2 (by exact hg2) _
                  have hbrS : Below w.heap.size w (wr.setCell ⟨w.heap.size, t, none⟩ (.int .i64 ((dt : Int) - 1))) := hbr.setCell (by simp) _
                  have hgS : g2 < (wr.setCell ⟨w.heap.size, t, none⟩ (.int .i64 ((dt : Int) - 1))).heap.size := by simpa using hg2'
                  clear hset hdt hown2
                  by_cases hz : dt - 1 = 0
                  · have hzb : ((dt : Int) - 1 == 0) = true := by simp; omega
                    have hK := H4.out hz
                    have hqk2 : (q ++ [t]).length ≤ k := hK.len
                    have hK2 : Hid (KI k L E (q ++ [t]) ((q ++ [t]).take (h + 1)) (fun x => ec E u x (L u) - ec E u x (j + 1)) (upd D t (dt - 1))) := by
                      rw [List.take_append_of_le_length (by omega)]; exact hK
                    have hUS2 : Hid (u ∈ (q ++ [t]).take (h + 1)) := by
                      rw [List.take_append_of_le_length (by omega)]; exact hUS.out
                    have hql : q.length + 1 ≤ k := by simpa using hqk2
                    clear hz hK H3 H4
                    go_wp2_with (at_builtin; refine wpList_append_fits _ rfl _ _ 22 rfl g2 3 i0 1 Try.underlying22 hi hz1 g2 q.length k _ rfl (hownS.alloc _) ⟨wr.heap.size, 0, none⟩ 1 1 [.int .i64 ((t : Nat) : Int)] rfl rfl ?c1 ?c2 ?c3 ?_)
                    case c1 => exact one_new _ _ _ _ (by simp)
                    case c2 => intro u hu; simp at hu; subst hu; rfl
                    case c3 => omega
                    intro w5 hown5 hgrow5
                    have hb5 : Below g2 (wr.setCell ⟨w.heap.size, t, none⟩ (.int .i64 ((dt : Int) - 1))) w5 := ((Below.refl _ _).alloc (by simp; omega) _).grown hgrow5 (by simp; omega) (by simp)
                    have hbr5 := hbrS.trans (hb5.mono (by omega))
                    have hD5 := HSET.out.below hb5 hg2
                    have hg5 : g2 < w5.heap.size := Nat.lt_of_lt_of_le hgS hb5.size
                    have hown6 : w5.ownsRow g2 3 1 (.slice (some ⟨g2, 0, none⟩) (q ++ [t]).length k) (q ++ [t]).length ((q ++ [t]).map fun x => Value.int .i64 ((x : Nat) : Int)) := by simpa using hown5
                    clear hown5 hgrow5 hownS hb5 hbrS hgS HSET
                    go_wp2
                    go_roundw
                    case rel => exact ⟨j + 1, q ++ [t], _, by omega, by simp; omega, hqk2, by go_num, by simp, hbr5, hg5, hD5, hown6, hK2, hUS2⟩
                    case measure => simp [intOf]; omega
                  · have hzb : ((dt : Int) - 1 == 0) = false := by simp; omega
                    have hK2 : Hid (KI k L E q (q.take (h + 1)) (fun x => ec E u x (L u) - ec E u x (j + 1)) (upd D t (dt - 1))) := H3.out hz
                    clear hz H3 H4
                    go_wp2
                    go_roundw
                    case rel => exact ⟨j + 1, q, _, by omega, hlt, hqk, by go_num, rfl, hbrS, hgS, HSET.out, hownS, hK2, hUS⟩
                    case measure => simp [intOf]; omega
                · have hK2 : Hid (KI k L E q (q.take (h + 1)) (fun _ => 0) D) := by
                    obtain rfl : j = L u := by omega
                    exact hKI2.out.close
                  clear hx1 hx2 hKI2
                  go_wp2
                  go_roundw
                  case rel => exact ⟨h + 1, q, D, by omega, hqk, by go_num, by go_num, rfl, hbr, hg2', hD2, hown2, hK2⟩
                  case measure => simp [intOf]; omega
            · have hfin := (show KI k L E q q (fun _ => 0) D by have := hKI.out; rwa [List.take_of_length_le (by omega)] at this).done HE.out
              have HF : Hid (((∃ l, Topo (Ed k L E) l ∧ ∀ w, w < k → w ∈ l) → q.length = k) ∧ ((∃ v m, v < k ∧ Wk (Ed k L E) (m + 1) v v) → q.length ≠ k)) := hfin
              clear hfin hKI
              have hhq : h = q.length := by omega
              go_wp2
              go_ret
              refine ⟨⟨_, rfl, fun hl => ?_, fun hc => ?_⟩, hbr⟩
              · have := HF.out.1 hl; simp; omega
              · have := HF.out.2 hc; simp; omega
end Go.Proofs.Qxb6600485a
