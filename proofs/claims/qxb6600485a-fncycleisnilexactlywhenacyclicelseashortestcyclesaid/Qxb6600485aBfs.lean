/-
  shortestCycle: its contract.
-/
import Derived.Test.Qxb6600485aClosed
import Derived.Test.Qxb6600485aBfsPlain
import Derived.ArgAppend
import Derived.Deep.LoopGhost
namespace Go.Proofs.Qxb6600485a
open Go.RowKit
set_option linter.unusedVariables false

/-- the queue: a slice of integers, of the call's own, at any offset -/
def QRow (w : World) (base : Nat) (s : Value) (xs : List Nat) : Prop :=
  ∃ g o cap, s = .slice (some ⟨g, o, none⟩) xs.length cap ∧ base ≤ g ∧ g < w.heap.size ∧ xs.length ≤ cap ∧ (∀ i (hi : i < xs.length), w.cell? ⟨g, o + i, none⟩ = some (.int .i64 ((xs[i] : Nat) : Int))) ∧ ∀ i, i < cap → (w.cell? ⟨g, o + i, none⟩).isSome = true ∧ w.frozen? ⟨g, o + i, none⟩ = false

theorem QRow.later {w w' : World} {base : Nat} {s : Value} {xs : List Nat} (h : QRow w base s xs) (hb : Below w.heap.size w w') : QRow w' base s xs := by
  obtain ⟨g, o, cap, hs, hg, hgs, hc, h1, h2⟩ := h
  exact ⟨g, o, cap, hs, hg, Nat.lt_of_lt_of_le hgs hb.size, hc, fun i hi => cell_later hb (h1 i hi), fun i hi => by
    rw [hb.cell (by exact hgs), hb.frozen (by exact hgs)]; exact h2 i hi⟩
theorem QRow.mono {w : World} {base base' : Nat} {s : Value} {xs : List Nat} (h : QRow w base s xs) (hb : base' ≤ base) : QRow w base' s xs := by
  obtain ⟨g, o, cap, hs, hg, hr⟩ := h
  exact ⟨g, o, cap, hs, Nat.le_trans hb hg, hr⟩
theorem QRow.setOther {w : World} {base : Nat} {s : Value} {xs : List Nat} (h : QRow w base s xs) (p : Addr) (x : Value) (hp : p.block < base) : QRow (w.setCell p x) base s xs := by
  obtain ⟨g, o, cap, hs, hg, hgs, hc, h1, h2⟩ := h
  have hne : ∀ i, (⟨g, o + i, none⟩ : Addr) ≠ p := fun i e => by rw [← e] at hp; simp at hp; omega
  refine ⟨g, o, cap, hs, hg, by simpa using hgs, hc, fun i hi => ?_, fun i hi => ?_⟩
  · rw [World.cell?_setCell_other _ _ _ _ (hne i).symm]; exact h1 i hi
  · rw [World.cell?_setCell_other _ _ _ _ (hne i).symm]
    exact ⟨(h2 i hi).1, by simpa using (h2 i hi).2⟩
theorem ownsRow_q {w : World} {base : Nat} {v : Value} {n : Nat} {xs : List Nat} (hn : n = xs.length) (hx : 0 < n) (h : w.ownsRow base 3 1 v n (xs.map fun x => Value.int .i64 ((x : Nat) : Int))) : QRow w base v xs := by
  subst hn
  rcases h.2 with ⟨_, h0⟩ | ⟨g, cap, cur, rfl, hb, hg, hnc, hcm, hcs, htake⟩
  · omega
  · have hgs := (h.lt g rfl).2
    refine ⟨g, 0, cap, rfl, hb, hgs, hnc, fun i hi => ?_, fun i hi => ⟨?_, frozen_of_row w g _ cur 3 hg⟩⟩
    · rw [Nat.zero_add, h.cellAt i (by omega)]; simp [hi]
    · rw [Nat.zero_add, cell_of_row w g i cur 3 (0, 0) hg]; simp; omega
theorem QRow.pushed {w : World} {base g o cap : Nat} {xs : List Nat} (t : Nat) (hg : base ≤ g) (hgs : g < w.heap.size) (hc : xs.length + 1 ≤ cap) (h1 : ∀ i (hi : i < xs.length), w.cell? ⟨g, o + i, none⟩ = some (.int .i64 ((xs[i] : Nat) : Int))) (h2 : ∀ i, i < cap → (w.cell? ⟨g, o + i, none⟩).isSome = true ∧ w.frozen? ⟨g, o + i, none⟩ = false) :
    QRow (w.setCells g (o + xs.length * 1) [.int .i64 ((t : Nat) : Int)]) base (.slice (some ⟨g, o, none⟩) (xs.length + 1) cap) (xs ++ [t]) := by
  have hcell : ∀ i, i ≠ xs.length → (w.setCells g (o + xs.length * 1) [.int .i64 ((t : Nat) : Int)]).cell? ⟨g, o + i, none⟩ = w.cell? ⟨g, o + i, none⟩ := fun i hi =>
    World.cell?_setCells_out _ _ _ _ _ (fun _ _ => by simp; omega)
  have hsame : (w.setCells g (o + xs.length * 1) [.int .i64 ((t : Nat) : Int)]).cell? ⟨g, o + xs.length, none⟩ = some (.int .i64 ((t : Nat) : Int)) := by
    have := World.cell?_setCells_in g [.int .i64 ((t : Nat) : Int)] (o + xs.length * 1) w (fun j hj => by
      simp at hj; subst hj; simpa using (h2 xs.length (by omega)).1) 0 (by simp)
    simpa using this
  refine ⟨g, o, cap, by simp, hg, by rw [size_setCells']; exact hgs, by simpa using hc, fun i hi => ?_, fun i hi => ⟨?_, by rw [World.frozen?_setCells]; exact (h2 i hi).2⟩⟩
  · by_cases e : i = xs.length
    · subst e; rw [hsame]; simp
    · rw [hcell i e]
      simp at hi
      rw [h1 i (by omega), List.getElem_append_left (by omega)]
  · by_cases e : i = xs.length
    · subst e; rw [hsame]; rfl
    · rw [hcell i e]; exact (h2 i hi).1

set_option maxRecDepth 100000 in
set_option maxHeartbeats 2000000 in
theorem bfs29 (w : World) (pb po ib : Nat) (a : Option Addr) (n c : Nat) (L : Nat → Nat) (E : Nat → Nat → Nat) (hp : GPtr w pb po ib a n c) (hr : Gr w a n c L E) (hn : n ≤ 4096) (hL : ∀ i, i < n → L i ≤ 131072) (hE : ∀ i, i < n → ∀ j, j < L i → E i j < n) (v m : Nat) (hv : v < n) (hw : Wk (Ed n L E) (m + 1) v v) :
    Calls Try.prog 29 #[.pointer (some ⟨pb, po, none⟩), .int .i64 v] w fun e w' => ∃ cg cc M C, e = .returned (.slice (some ⟨cg, 0, none⟩) (M + 1) cc) ∧ (∀ i, i < M + 1 → w'.cell? ⟨cg, i, none⟩ = some (.int .i64 ((C i : Nat) : Int))) ∧ Simple n L E M C ∧ C 0 = v ∧ IsMin (Ed n L E) v M ∧ Below w.heap.size w w' := by
  have HP : Hid (GPtr w pb po ib a n c) := hp
  obtain ⟨p0, p1, pI⟩ := hp
  have HL : Hid (∀ i, i < n → L i ≤ 131072) := hL
  have HE : Hid (∀ i, i < n → ∀ j, j < L i → E i j < n) := hE
  have HW : Hid (Wk (Ed n L E) (m + 1) v v) := hw
  clear hL hE hw pI
  obtain ⟨ti, hi, hz0, hz1, hz2⟩ := info_parts Try.info3
  have hvi : (v : Int) < n := by omega
  go_enter Try.func29, Try.ntmps29
  go_wp2_with (at_make; refine wpList_make_full _ rfl _ _ 22 rfl w.heap.size 3 ti _ 1 Try.underlying22 hi hz0 hz1 _ _ _ _ n rfl rfl rfl rfl ?b1 ?b2 ?b3 ?_)
  case b1 => rw [hz2]; omega
  case b2 => unfold maxLen; omega
  case b3 => exact Nat.le_refl _
  intro w1 hown hgrow
  have hfill : IRow w1 w.heap.size n (fun _ => 0) := ARow.made (.int .i64 0) hown (toList_madeCells_one _ n)
  have hbel : Below w.heap.size w w1 := (Below.refl _ _).grown hgrow (Nat.le_refl _) (by simp)
  clear hown hgrow
  go_wp2
  go_loopw [6, 19] (fun _ i wr => ∃ (k : Nat) (d : Nat → Int), k ≤ n ∧ i = .int .i64 k ∧ Below w.heap.size w wr ∧ IRow wr w.heap.size n d ∧ Hid (∀ x, x < k → d x = -1)) (fun _ i _ => n - (intOf i).toNat)
  case atStart => exact ⟨0, _, Nat.zero_le _, rfl, hbel, hfill, fun x hx => absurd hx (by omega)⟩
  case round =>
    clear hfill hbel
    obtain ⟨k, d, hk, rfl, hbr, hd, hd1⟩ := hrel
    by_cases hlt : k < n
    · have g0 : wr.cell? ⟨w.heap.size, k, none⟩ = some (.int .i64 (d k)) := (hd k hlt).1
      have f0 := (hd k hlt).2
      have hset := hd.setInt k (-1) hlt
      have hd2 : Hid (∀ x, x < k + 1 → upd d k (-1) x = -1) := by
        intro x hx
        by_cases e : x = k
        · subst e; rw [upd_same]
        · rw [upd_other _ _ _ _ e]; exact hd1.out x (by omega)
      have HSET : Hid (IRow (wr.setCell ⟨w.heap.size, k, none⟩ (.int .i64 (-1))) w.heap.size n (upd d k (-1))) := hset
      clear hset hd hd1
      go_wp2
      go_roundw
      case rel => exact ⟨k + 1, _, by omega, by go_num, hbr.setCell (by simp) _, HSET.out, hd2⟩
      case measure => simp [intOf]; omega
    · obtain rfl : k = n := by omega
      have hsz : w.heap.size < wr.heap.size := hd.lt (by omega)
      obtain ⟨hBF, hBB⟩ := BF.start (n := k) (L := L) (E := E) hv hd1.out
      have HBF : Hid (BF k L E v [v] 0 d (fun _ => 0)) := hBF
      have HBB : Hid (BB [v] 0 (fun _ => 0)) := hBB
      have HD : Hid (IRow wr w.heap.size k d) := hd
      clear hBF hBB hd1 hd
      go_wp2
      have hown := World.ownsRow_lit (base := w.heap.size + 1) (e := 3) (size := 1) wr #[.int .i64 ((v : Nat) : Int)] 1 (by omega) (by unfold maxLen; omega) (by simp)
      have hq := ownsRow_q (xs := [v]) rfl (by simp) hown
      have hbel : Below w.heap.size w (wr.alloc (.cells #[.int .i64 ((v : Nat) : Int)] 3)) := hbr.alloc (by omega) _
      have hd := HD.out.alloc (.cells #[.int .i64 ((v : Nat) : Int)] 3) hsz
      clear hown
      go_loopg [7, 8, 10] k (fun gk s _ _ wr => ∃ (Q : List Nat) (h : Nat) (fr : Nat → Int) (d : Nat → Nat), h ≤ Q.length ∧ gk = k - h ∧ Hid (QRow wr (w.heap.size + 1) s (Q.drop h)) ∧ Below w.heap.size w wr ∧ Hid (IRow wr w.heap.size k fr) ∧ w.heap.size < wr.heap.size ∧ Hid (BF k L E v Q h fr d) ∧ Hid (BB Q h d))
      case atStart => exact ⟨[v], 0, d, fun _ => 0, by simp, by simp, hq, hbel, hd, by simp; omega, HBF, HBB⟩
      case round =>
        clear hbel hq hd HBF HBB HD hbr hsz
        obtain ⟨Q, h, fr, d, hh, hgk, hq, hbr, hf, hsz, hBF, hBB⟩ := hrel
        obtain ⟨g, o, cap, rfl, hg, hgs, hcap, hc1, hc2⟩ := hq.out
        clear hq
        have hqk : Q.length ≤ k := nodup_len k _ hBF.out.1 hBF.out.2.1
        by_cases hlt : h < Q.length
        · obtain ⟨u, hu⟩ : ∃ u, Q[h]? = some u := ⟨Q[h], List.getElem?_eq_getElem hlt⟩
          have HU : Hid (Q[h]? = some u) := hu
          have hun : u < k := hBF.out.2.1 u (List.mem_of_getElem? hu)
          have hdrop : Q.drop h = u :: Q.drop (h + 1) := by
            rw [List.drop_eq_getElem_cons hlt]
            congr 1
            exact Option.some.inj ((List.getElem?_eq_getElem hlt).symm.trans hu)
          rw [hdrop] at hcap hc1
          have c0 : wr.cell? ⟨g, o, none⟩ = some (.int .i64 ((u : Nat) : Int)) := by simpa using hc1 0 (by simp)
          have hc1' : ∀ i (hi : i < (Q.drop (h + 1)).length), wr.cell? ⟨g, o + 1 + i, none⟩ = some (.int .i64 (((Q.drop (h + 1))[i] : Nat) : Int)) := fun i hi => by
            have := hc1 (i + 1) (by simp at hi ⊢; omega)
            rw [List.getElem_cons_succ] at this
            rw [← this]; congr 2; omega
          have hql : (Q.drop h).length = (Q.drop (h + 1)).length + 1 := by rw [hdrop]; rfl
          have HQA : Hid (cap = 1 → QRow wr (w.heap.size + 1) (.slice (some ⟨g, o, none⟩) (Q.drop (h + 1)).length 0) (Q.drop (h + 1))) := fun e =>
            ⟨g, o, 0, rfl, hg, hgs, by simp at hcap ⊢; omega, fun i hi => absurd hi (by simp at hcap hi ⊢; omega), fun i hi => absurd hi (by omega)⟩
          have HQB : Hid (QRow wr (w.heap.size + 1) (.slice (some ⟨g, o + 1, none⟩) (Q.drop (h + 1)).length (cap - 1)) (Q.drop (h + 1))) :=
            ⟨g, o + 1, cap - 1, rfl, hg, hgs, by simp at hcap ⊢; omega, hc1', fun i hi => by
              have := hc2 (i + 1) (by omega)
              rw [show o + 1 + i = o + (i + 1) by omega]; exact this⟩
          have hLu := HL.out u hun
          have hui : (u : Int) < k := by omega
          obtain ⟨rb, ro, x, dd, rfl, r0, hx1, hx2⟩ := hr.node hun
          have HX1 : Hid (0 < L u → ∃ xb xo, x = some ⟨xb, xo, none⟩) := hx1
          have HX2 : Hid (∀ xb xo, x = some ⟨xb, xo, none⟩ → ∀ j, j < L u → w.cell? ⟨xb, xo + j, none⟩ = some (.int .i64 ((E u j : Nat) : Int))) := hx2
          have r0' := cell_later hbr r0
          have p1' := cell_later hbr p1
          rw [hql]
          rw [List.length_cons] at hcap
          have hy : (Q.drop (h + 1)).length ≤ 4096 := by simp; omega
          have HGK : Hid (gk = k - h) := hgk
          clear hgk
          clear hdrop hc1 hc1' hc2 hx1 hx2 hu hql r0 hr
          generalize hys : (Q.drop (h + 1)).length = ys at *
          clear hys
          have hyi : (0 : Int) < (ys : Int) + 1 := by omega
          by_cases hcp : cap = 1
          · have HQ2 : Hid (QRow wr (w.heap.size + 1) (.slice (some ⟨g, o, none⟩) ys 0) (Q.drop (h + 1))) := HQA.out hcp
            subst hcp
            obtain rfl : ys = 0 := by omega
            clear HQA HQB hcap hyi hy
            go_wp2
            go_loopw [7, 10, 44] (fun s _ jj wr => ∃ (j : Nat) (Q : List Nat) (fr : Nat → Int) (d : Nat → Nat), j ≤ L u ∧ jj = .int .i64 j ∧ Hid (Q[h]? = some u) ∧ Hid (QRow wr (w.heap.size + 1) s (Q.drop (h + 1))) ∧ Below w.heap.size w wr ∧ Hid (IRow wr w.heap.size k fr) ∧ w.heap.size < wr.heap.size ∧ Hid (BF k L E v Q h fr d) ∧ Hid (BB Q h d) ∧ Hid (BE E v Q u j d)) (fun _ _ jj _ => L u - (intOf jj).toNat)
            case atStart => exact ⟨0, Q, fr, d, Nat.zero_le _, rfl, HU, HQ2, hbr, hf, hsz, hBF, hBB, fun i hi => absurd hi (by omega)⟩
            case round =>
              clear HU HQ2 hbr hf hsz hBF hBB
              obtain ⟨j, Q, fr, d, hj, rfl, HU, HQ2, hbr, hf, hsz, hBF, hBB, hBE⟩ := hrel
              have huQ : u ∈ Q := List.mem_of_getElem? HU.out
              have HUQ : Hid (u ∈ Q) := huQ
              clear huQ
              by_cases hjt : j < L u
              · obtain ⟨xb, xo, rfl⟩ := HX1.out (by omega)
                have r1 := cell_later hbr (HX2.out xb xo rfl j hjt)
                have hji : (j : Int) < L u := by omega
                have htn := HE.out u hun j hjt
                have HED : Hid (Ed k L E u (E u j)) := ⟨hun, j, hjt, rfl⟩
                have HT : Hid (E u j = E u j) := rfl
                by_cases hev : E u j = v
                · have hb0 : (((E u j : Nat) : Int) == (v : Int)) = true := by simp; omega
                  rw [hev] at HED
                  obtain ⟨s1, s2, s3⟩ := hBF.out.simple HUQ.out HED.out
                  have HS1 : Hid (Simple k L E (d u + 1) (cyc fr u v (d u))) := s1
                  have HS2 : Hid (cyc fr u v (d u) 0 = v) := s2
                  have HMin : Hid (IsMin (Ed k L E) v (d u + 1)) := hBF.out.isMin HU.out HED.out
                  have hcall := closed30 wr pb po ib w.heap.size _ k c (HP.out.later hbr (by omega)) hn fr hf.out v (d u) (pth fr u) (by omega) hv (fun i hi => hBF.out.2.1 _ (hBF.out.path HUQ.out i hi).1) (fun i hi => (hBF.out.step HUQ.out hi).2.1) (hBF.out.last HUQ.out) (fun i hi => (hBF.out.step HUQ.out hi).1)
                  have HCALL : Hid (Calls Try.prog 30 #[.pointer (some ⟨pb, po, none⟩), .slice (some ⟨w.heap.size, 0, none⟩) k k, .int .i64 ((u : Nat) : Int), .int .i64 v] wr fun e w' => ∃ cg cc, e = .returned (.slice (some ⟨cg, 0, none⟩) (d u + 2) cc) ∧ (∀ i, i < d u + 2 → w'.cell? ⟨cg, i, none⟩ = some (.int .i64 (((if i ≤ d u then pth fr u (d u - i) else v) : Nat) : Int))) ∧ Below wr.heap.size wr w') := hcall
                  clear hcall s1 s2 hev HT htn
                  generalize E u j = t at *
                  go_wp2_with fail
                  refine HCALL.out.mono ?_
                  rintro e w2 ⟨cg, cc, rfl, hcc, hb2⟩
                  have hb3 := hbr.trans (hb2.mono (by omega))
                  go_wp2
                  go_ret
                  exact ⟨cg, cc, d u + 1, cyc fr u v (d u), rfl, hcc, HS1.out, HS2.out, HMin.out, hb3⟩
                · have hb0 : (((E u j : Nat) : Int) == (v : Int)) = false := by simp; omega
                  have HNE : Hid (E u j ≠ v) := hev
                  have g0 : wr.cell? ⟨w.heap.size, E u j, none⟩ = some (.int .i64 (fr (E u j))) := (hf.out _ htn).1
                  have f0 := (hf.out _ htn).2
                  have hti : ((E u j : Nat) : Int) < k := by omega
                  have HKN : Hid ((fr (E u j) < 0 → E u j ∉ Q) ∧ (¬ fr (E u j) < 0 → E u j ∈ Q)) := hBF.out.known htn hev
                  clear hev
                  by_cases hneg : fr (E u j) < 0
                  · have hnm := HKN.out.1 hneg
                    obtain ⟨q1, q2⟩ := hBF.out.push hBB.out HU.out htn HNE.out hnm HED.out
                    have hlen : (Q ++ [E u j]).length ≤ k := nodup_len k _ q1.1 q1.2.1
                    have q3 := hBE.out.push hnm HUQ.out HNE.out rfl
                    have HQ1 : Hid (BF k L E v (Q ++ [E u j]) h (upd fr (E u j) u) (upd d (E u j) (d u + 1))) := q1
                    have HQ2' : Hid (BB (Q ++ [E u j]) h (upd d (E u j) (d u + 1))) := q2
                    have HQ3 : Hid (BE E v (Q ++ [E u j]) u (j + 1) (upd d (E u j) (d u + 1))) := q3
                    have hset := hf.out.setInt (E u j) u htn
                    have hh2 : h < Q.length := (List.getElem?_eq_some_iff.1 HU.out).1
                    have HU2 : Hid ((Q ++ [E u j])[h]? = some u) := by rw [List.getElem?_append_left hh2]; exact HU.out
                    have hdr : (Q ++ [E u j]).drop (h + 1) = Q.drop (h + 1) ++ [E u j] := by rw [List.drop_append_of_le_length (by omega)]
                    have HDR : Hid ((Q ++ [E u j]).drop (h + 1) = Q.drop (h + 1) ++ [E u j]) := hdr
                    clear hdr
                    have hlen2 : (Q.drop (h + 1)).length ≤ 4096 := by simp at hlen ⊢; omega
                    clear q1 q2 q3 hnm HKN HT
                    generalize E u j = t at *
                    have HSET : Hid (IRow (wr.setCell ⟨w.heap.size, t, none⟩ (.int .i64 (u : Int))) w.heap.size k (upd fr t (u : Int))) := hset
                    generalize fr t = z at *
                    have hd0 : decide (z < 0) = true := by simpa using hneg
                    have hqS := (HQ2.out.setOther ⟨w.heap.size, t, none⟩ (.int .i64 (u : Int)) (by simp)).later ((Below.refl _ _).alloc (Nat.le_refl _) (.cells #[.int .i64 ((t : Nat) : Int)] 3))
                    have hbS : Below w.heap.size w (wr.setCell ⟨w.heap.size, t, none⟩ (.int .i64 (u : Int))) := hbr.setCell (by simp) _
                    obtain ⟨g, o, cap, rfl, hg, hgs, hcap, hc1, hc2⟩ := hqS
                    clear hset HQ2
                    generalize Q.drop (h + 1) = xs at *
                    have HC1 : Hid (∀ i (hi : i < xs.length), ((wr.setCell ⟨w.heap.size, t, none⟩ (.int .i64 (u : Int))).alloc (.cells #[.int .i64 ((t : Nat) : Int)] 3)).cell? ⟨g, o + i, none⟩ = some (.int .i64 ((xs[i] : Nat) : Int))) := hc1
                    have HC2 : Hid (∀ i, i < cap → (((wr.setCell ⟨w.heap.size, t, none⟩ (.int .i64 (u : Int))).alloc (.cells #[.int .i64 ((t : Nat) : Int)] 3)).cell? ⟨g, o + i, none⟩).isSome = true ∧ ((wr.setCell ⟨w.heap.size, t, none⟩ (.int .i64 (u : Int))).alloc (.cells #[.int .i64 ((t : Nat) : Int)] 3)).frozen? ⟨g, o + i, none⟩ = false) := hc2
                    clear hc1 hc2
                    have HGS : Hid (g < ((wr.setCell ⟨w.heap.size, t, none⟩ (.int .i64 (u : Int))).alloc (.cells #[.int .i64 ((t : Nat) : Int)] 3)).heap.size) := hgs
                    clear hgs
                    go_wp2_with (at_builtin; refine wpList_append_arg _ rfl _ _ 22 rfl 3 ti _ 1 8 Try.underlying22 hi hz0 hz1 hz2 rfl (by omega) g o xs.length cap (xs.map fun x => Value.int .i64 ((x : Nat) : Int)) rfl (by simp) ?c0 ⟨wr.heap.size, 0, none⟩ 1 1 [.int .i64 ((t : Nat) : Int)] rfl rfl ?c1 ?c2 ?c3 ?c4 ?c5 ?room ?grow)
                    case c0 =>
                      intro j u hj
                      obtain ⟨hj1, hj2⟩ := List.getElem?_eq_some_iff.1 hj
                      simp at hj1 hj2
                      rw [HC1.out j hj1, hj2]
                    case c1 => exact one_new _ _ _ _ (by simp)
                    case c2 => intro u hu; simp at hu; subst hu; rfl
                    case c3 =>
                      intro hroom j hj
                      simp at hj
                      subst hj
                      have := HC2.out xs.length (by omega)
                      simpa using this
                    case c4 => unfold maxLen; omega
                    case c5 => omega
                    case room =>
                      intro hroom
                      have hq3 := QRow.pushed t hg HGS.out hroom HC1.out HC2.out
                      have hsz2 : w.heap.size + 1 ≤ (wr.setCell ⟨w.heap.size, t, none⟩ (.int .i64 (u : Int))).heap.size := by simp; omega
                      have hbA : Below (w.heap.size + 1) (wr.setCell ⟨w.heap.size, t, none⟩ (.int .i64 (u : Int))) (((wr.setCell ⟨w.heap.size, t, none⟩ (.int .i64 (u : Int))).alloc (.cells #[.int .i64 ((t : Nat) : Int)] 3)).setCells g (o + xs.length * 1) [.int .i64 ((t : Nat) : Int)]) := below_setCells' hg _ _ ((Below.refl _ _).alloc hsz2 _)
                      have hf3 := HSET.out.below hbA (by omega)
                      have hb3 := hbS.trans (hbA.mono (by omega))
                      have hz3 : w.heap.size < (((wr.setCell ⟨w.heap.size, t, none⟩ (.int .i64 (u : Int))).alloc (.cells #[.int .i64 ((t : Nat) : Int)] 3)).setCells g (o + xs.length * 1) [.int .i64 ((t : Nat) : Int)]).heap.size := by rw [size_setCells']; simp; omega
                      rw [← HDR.out] at hq3
                      simp only [Nat.mul_one] at hq3 hb3 hf3 hz3
                      clear HC1 HC2 HGS hbA hsz2 hbS HSET
                      go_wp2
                      refine ⟨?_, ?_⟩
                      · (repeat apply Exists.intro)
                        refine ⟨?_, rfl⟩
                        exact ⟨j + 1, Q ++ [t], _, _, by omega, by go_num, HU2, hq3, hb3, hf3, hz3, HQ1, HQ2', HQ3⟩
                      · simp [intOf]; omega
                    case grow =>
                      intro hroom v' w' hown' hgrow'
                      have hq3 := (ownsRow_q (n := xs.length + 1) (xs := xs ++ [t]) (by simp) (by omega) (by simpa using hown')).mono (show w.heap.size + 1 ≤ ((wr.setCell ⟨w.heap.size, t, none⟩ (.int .i64 (u : Int))).alloc (.cells #[.int .i64 ((t : Nat) : Int)] 3)).heap.size by simp; omega)
                      have hbA : Below (w.heap.size + 1) (wr.setCell ⟨w.heap.size, t, none⟩ (.int .i64 (u : Int))) w' := ((Below.refl _ _).alloc (by simp; omega) _).grown hgrow' (by simp; omega) (by simp)
                      have hf3 := HSET.out.below hbA (by omega)
                      have hb3 := hbS.trans (hbA.mono (by omega))
                      have hz3 : w.heap.size < w'.heap.size := Nat.lt_of_lt_of_le (by simp; omega) hbA.size
                      rw [← HDR.out] at hq3
                      clear HC1 HC2 HGS hbA hbS HSET hown' hgrow'
                      go_wp2
                      refine ⟨?_, ?_⟩
                      · (repeat apply Exists.intro)
                        refine ⟨?_, rfl⟩
                        exact ⟨j + 1, Q ++ [t], _, _, by omega, by go_num, HU2, hq3, hb3, hf3, hz3, HQ1, HQ2', HQ3⟩
                      · simp [intOf]; omega
                  · have hmem := HKN.out.2 hneg
                    have HBE2 : Hid (BE E v Q u (j + 1) d) := hBE.out.pass hBB.out HU.out hmem HNE.out rfl
                    have hd0 : decide (fr (E u j) < 0) = false := by simpa using hneg
                    clear HKN hmem HT
                    generalize E u j = t at *
                    generalize fr t = z at *
                    go_wp2
                    go_roundw
                    case rel => exact ⟨j + 1, Q, fr, d, by omega, by go_num, HU, HQ2, hbr, hf, hsz, hBF, hBB, HBE2⟩
                    case measure => simp [intOf]; omega
              · obtain rfl : j = L u := by omega
                obtain ⟨q1, q2⟩ := hBF.out.next hBB.out HU.out hBE.out
                have HQ1 : Hid (BF k L E v Q (h + 1) fr d) := q1
                have HQ3 : Hid (BB Q (h + 1) d) := q2
                have hh2 : h < Q.length := (List.getElem?_eq_some_iff.1 HU.out).1
                have hlen : Q.length ≤ k := nodup_len k _ q1.1 q1.2.1
                clear q1 q2 HX1 HX2
                go_wp2
                go_roundg (k - (h + 1))
                case measure => have := HGK.out; omega
                case rel => exact ⟨Q, h + 1, fr, d, by omega, by omega, HQ2, hbr, hf, hsz, HQ1, HQ3⟩
          · have HQ2 : Hid (QRow wr (w.heap.size + 1) (.slice (some ⟨g, o + 1, none⟩) ys (cap - 1)) (Q.drop (h + 1))) := HQB
            clear HQA HQB
            go_wp2
            go_loopw [7, 10, 44] (fun s _ jj wr => ∃ (j : Nat) (Q : List Nat) (fr : Nat → Int) (d : Nat → Nat), j ≤ L u ∧ jj = .int .i64 j ∧ Hid (Q[h]? = some u) ∧ Hid (QRow wr (w.heap.size + 1) s (Q.drop (h + 1))) ∧ Below w.heap.size w wr ∧ Hid (IRow wr w.heap.size k fr) ∧ w.heap.size < wr.heap.size ∧ Hid (BF k L E v Q h fr d) ∧ Hid (BB Q h d) ∧ Hid (BE E v Q u j d)) (fun _ _ jj _ => L u - (intOf jj).toNat)
            case atStart => exact ⟨0, Q, fr, d, Nat.zero_le _, rfl, HU, HQ2, hbr, hf, hsz, hBF, hBB, fun i hi => absurd hi (by omega)⟩
            case round =>
              clear HU HQ2 hbr hf hsz hBF hBB
              obtain ⟨j, Q, fr, d, hj, rfl, HU, HQ2, hbr, hf, hsz, hBF, hBB, hBE⟩ := hrel
              have huQ : u ∈ Q := List.mem_of_getElem? HU.out
              have HUQ : Hid (u ∈ Q) := huQ
              clear huQ
              by_cases hjt : j < L u
              · obtain ⟨xb, xo, rfl⟩ := HX1.out (by omega)
                have r1 := cell_later hbr (HX2.out xb xo rfl j hjt)
                have hji : (j : Int) < L u := by omega
                have htn := HE.out u hun j hjt
                have HED : Hid (Ed k L E u (E u j)) := ⟨hun, j, hjt, rfl⟩
                have HT : Hid (E u j = E u j) := rfl
                by_cases hev : E u j = v
                · have hb0 : (((E u j : Nat) : Int) == (v : Int)) = true := by simp; omega
                  rw [hev] at HED
                  obtain ⟨s1, s2, s3⟩ := hBF.out.simple HUQ.out HED.out
                  have HS1 : Hid (Simple k L E (d u + 1) (cyc fr u v (d u))) := s1
                  have HS2 : Hid (cyc fr u v (d u) 0 = v) := s2
                  have HMin : Hid (IsMin (Ed k L E) v (d u + 1)) := hBF.out.isMin HU.out HED.out
                  have hcall := closed30 wr pb po ib w.heap.size _ k c (HP.out.later hbr (by omega)) hn fr hf.out v (d u) (pth fr u) (by omega) hv (fun i hi => hBF.out.2.1 _ (hBF.out.path HUQ.out i hi).1) (fun i hi => (hBF.out.step HUQ.out hi).2.1) (hBF.out.last HUQ.out) (fun i hi => (hBF.out.step HUQ.out hi).1)
                  have HCALL : Hid (Calls Try.prog 30 #[.pointer (some ⟨pb, po, none⟩), .slice (some ⟨w.heap.size, 0, none⟩) k k, .int .i64 ((u : Nat) : Int), .int .i64 v] wr fun e w' => ∃ cg cc, e = .returned (.slice (some ⟨cg, 0, none⟩) (d u + 2) cc) ∧ (∀ i, i < d u + 2 → w'.cell? ⟨cg, i, none⟩ = some (.int .i64 (((if i ≤ d u then pth fr u (d u - i) else v) : Nat) : Int))) ∧ Below wr.heap.size wr w') := hcall
                  clear hcall s1 s2 hev HT htn
                  generalize E u j = t at *
                  go_wp2_with fail
                  refine HCALL.out.mono ?_
                  rintro e w2 ⟨cg, cc, rfl, hcc, hb2⟩
                  have hb3 := hbr.trans (hb2.mono (by omega))
                  go_wp2
                  go_ret
                  exact ⟨cg, cc, d u + 1, cyc fr u v (d u), rfl, hcc, HS1.out, HS2.out, HMin.out, hb3⟩
                · have hb0 : (((E u j : Nat) : Int) == (v : Int)) = false := by simp; omega
                  have HNE : Hid (E u j ≠ v) := hev
                  have g0 : wr.cell? ⟨w.heap.size, E u j, none⟩ = some (.int .i64 (fr (E u j))) := (hf.out _ htn).1
                  have f0 := (hf.out _ htn).2
                  have hti : ((E u j : Nat) : Int) < k := by omega
                  have HKN : Hid ((fr (E u j) < 0 → E u j ∉ Q) ∧ (¬ fr (E u j) < 0 → E u j ∈ Q)) := hBF.out.known htn hev
                  clear hev
                  by_cases hneg : fr (E u j) < 0
                  · have hnm := HKN.out.1 hneg
                    obtain ⟨q1, q2⟩ := hBF.out.push hBB.out HU.out htn HNE.out hnm HED.out
                    have hlen : (Q ++ [E u j]).length ≤ k := nodup_len k _ q1.1 q1.2.1
                    have q3 := hBE.out.push hnm HUQ.out HNE.out rfl
                    have HQ1 : Hid (BF k L E v (Q ++ [E u j]) h (upd fr (E u j) u) (upd d (E u j) (d u + 1))) := q1
                    have HQ2' : Hid (BB (Q ++ [E u j]) h (upd d (E u j) (d u + 1))) := q2
                    have HQ3 : Hid (BE E v (Q ++ [E u j]) u (j + 1) (upd d (E u j) (d u + 1))) := q3
                    have hset := hf.out.setInt (E u j) u htn
                    have hh2 : h < Q.length := (List.getElem?_eq_some_iff.1 HU.out).1
                    have HU2 : Hid ((Q ++ [E u j])[h]? = some u) := by rw [List.getElem?_append_left hh2]; exact HU.out
                    have hdr : (Q ++ [E u j]).drop (h + 1) = Q.drop (h + 1) ++ [E u j] := by rw [List.drop_append_of_le_length (by omega)]
                    have HDR : Hid ((Q ++ [E u j]).drop (h + 1) = Q.drop (h + 1) ++ [E u j]) := hdr
                    clear hdr
                    have hlen2 : (Q.drop (h + 1)).length ≤ 4096 := by simp at hlen ⊢; omega
                    clear q1 q2 q3 hnm HKN HT
                    generalize E u j = t at *
                    have HSET : Hid (IRow (wr.setCell ⟨w.heap.size, t, none⟩ (.int .i64 (u : Int))) w.heap.size k (upd fr t (u : Int))) := hset
                    generalize fr t = z at *
                    have hd0 : decide (z < 0) = true := by simpa using hneg
                    have hqS := (HQ2.out.setOther ⟨w.heap.size, t, none⟩ (.int .i64 (u : Int)) (by simp)).later ((Below.refl _ _).alloc (Nat.le_refl _) (.cells #[.int .i64 ((t : Nat) : Int)] 3))
                    have hbS : Below w.heap.size w (wr.setCell ⟨w.heap.size, t, none⟩ (.int .i64 (u : Int))) := hbr.setCell (by simp) _
                    obtain ⟨g, o, cap, rfl, hg, hgs, hcap, hc1, hc2⟩ := hqS
                    clear hset HQ2
                    generalize Q.drop (h + 1) = xs at *
                    have HC1 : Hid (∀ i (hi : i < xs.length), ((wr.setCell ⟨w.heap.size, t, none⟩ (.int .i64 (u : Int))).alloc (.cells #[.int .i64 ((t : Nat) : Int)] 3)).cell? ⟨g, o + i, none⟩ = some (.int .i64 ((xs[i] : Nat) : Int))) := hc1
                    have HC2 : Hid (∀ i, i < cap → (((wr.setCell ⟨w.heap.size, t, none⟩ (.int .i64 (u : Int))).alloc (.cells #[.int .i64 ((t : Nat) : Int)] 3)).cell? ⟨g, o + i, none⟩).isSome = true ∧ ((wr.setCell ⟨w.heap.size, t, none⟩ (.int .i64 (u : Int))).alloc (.cells #[.int .i64 ((t : Nat) : Int)] 3)).frozen? ⟨g, o + i, none⟩ = false) := hc2
                    clear hc1 hc2
                    have HGS : Hid (g < ((wr.setCell ⟨w.heap.size, t, none⟩ (.int .i64 (u : Int))).alloc (.cells #[.int .i64 ((t : Nat) : Int)] 3)).heap.size) := hgs
                    clear hgs
                    go_wp2_with (at_builtin; refine wpList_append_arg _ rfl _ _ 22 rfl 3 ti _ 1 8 Try.underlying22 hi hz0 hz1 hz2 rfl (by omega) g o xs.length cap (xs.map fun x => Value.int .i64 ((x : Nat) : Int)) rfl (by simp) ?c0 ⟨wr.heap.size, 0, none⟩ 1 1 [.int .i64 ((t : Nat) : Int)] rfl rfl ?c1 ?c2 ?c3 ?c4 ?c5 ?room ?grow)
                    case c0 =>
                      intro j u hj
                      obtain ⟨hj1, hj2⟩ := List.getElem?_eq_some_iff.1 hj
                      simp at hj1 hj2
                      rw [HC1.out j hj1, hj2]
                    case c1 => exact one_new _ _ _ _ (by simp)
                    case c2 => intro u hu; simp at hu; subst hu; rfl
                    case c3 =>
                      intro hroom j hj
                      simp at hj
                      subst hj
                      have := HC2.out xs.length (by omega)
                      simpa using this
                    case c4 => unfold maxLen; omega
                    case c5 => omega
                    case room =>
                      intro hroom
                      have hq3 := QRow.pushed t hg HGS.out hroom HC1.out HC2.out
                      have hsz2 : w.heap.size + 1 ≤ (wr.setCell ⟨w.heap.size, t, none⟩ (.int .i64 (u : Int))).heap.size := by simp; omega
                      have hbA : Below (w.heap.size + 1) (wr.setCell ⟨w.heap.size, t, none⟩ (.int .i64 (u : Int))) (((wr.setCell ⟨w.heap.size, t, none⟩ (.int .i64 (u : Int))).alloc (.cells #[.int .i64 ((t : Nat) : Int)] 3)).setCells g (o + xs.length * 1) [.int .i64 ((t : Nat) : Int)]) := below_setCells' hg _ _ ((Below.refl _ _).alloc hsz2 _)
                      have hf3 := HSET.out.below hbA (by omega)
                      have hb3 := hbS.trans (hbA.mono (by omega))
                      have hz3 : w.heap.size < (((wr.setCell ⟨w.heap.size, t, none⟩ (.int .i64 (u : Int))).alloc (.cells #[.int .i64 ((t : Nat) : Int)] 3)).setCells g (o + xs.length * 1) [.int .i64 ((t : Nat) : Int)]).heap.size := by rw [size_setCells']; simp; omega
                      rw [← HDR.out] at hq3
                      simp only [Nat.mul_one] at hq3 hb3 hf3 hz3
                      clear HC1 HC2 HGS hbA hsz2 hbS HSET
                      go_wp2
                      go_roundw
                      case rel => exact ⟨j + 1, Q ++ [t], _, _, by omega, by go_num, HU2, hq3, hb3, hf3, hz3, HQ1, HQ2', HQ3⟩
                      case measure => simp [intOf]; omega
                    case grow =>
                      intro hroom v' w' hown' hgrow'
                      have hq3 := (ownsRow_q (n := xs.length + 1) (xs := xs ++ [t]) (by simp) (by omega) (by simpa using hown')).mono (show w.heap.size + 1 ≤ ((wr.setCell ⟨w.heap.size, t, none⟩ (.int .i64 (u : Int))).alloc (.cells #[.int .i64 ((t : Nat) : Int)] 3)).heap.size by simp; omega)
                      have hbA : Below (w.heap.size + 1) (wr.setCell ⟨w.heap.size, t, none⟩ (.int .i64 (u : Int))) w' := ((Below.refl _ _).alloc (by simp; omega) _).grown hgrow' (by simp; omega) (by simp)
                      have hf3 := HSET.out.below hbA (by omega)
                      have hb3 := hbS.trans (hbA.mono (by omega))
                      have hz3 : w.heap.size < w'.heap.size := Nat.lt_of_lt_of_le (by simp; omega) hbA.size
                      rw [← HDR.out] at hq3
                      clear HC1 HC2 HGS hbA hbS HSET hown' hgrow'
                      go_wp2
                      go_roundw
                      case rel => exact ⟨j + 1, Q ++ [t], _, _, by omega, by go_num, HU2, hq3, hb3, hf3, hz3, HQ1, HQ2', HQ3⟩
                      case measure => simp [intOf]; omega
                  · have hmem := HKN.out.2 hneg
                    have HBE2 : Hid (BE E v Q u (j + 1) d) := hBE.out.pass hBB.out HU.out hmem HNE.out rfl
                    have hd0 : decide (fr (E u j) < 0) = false := by simpa using hneg
                    clear HKN hmem HT
                    generalize E u j = t at *
                    generalize fr t = z at *
                    go_wp2
                    go_roundw
                    case rel => exact ⟨j + 1, Q, fr, d, by omega, by go_num, HU, HQ2, hbr, hf, hsz, hBF, hBB, HBE2⟩
                    case measure => simp [intOf]; omega
              · obtain rfl : j = L u := by omega
                obtain ⟨q1, q2⟩ := hBF.out.next hBB.out HU.out hBE.out
                have HQ1 : Hid (BF k L E v Q (h + 1) fr d) := q1
                have HQ3 : Hid (BB Q (h + 1) d) := q2
                have hh2 : h < Q.length := (List.getElem?_eq_some_iff.1 HU.out).1
                have hlen : Q.length ≤ k := nodup_len k _ q1.1 q1.2.1
                clear q1 q2 HX1 HX2
                go_wp2
                go_roundg (k - (h + 1))
                case measure => have := HGK.out; omega
                case rel => exact ⟨Q, h + 1, fr, d, by omega, by omega, HQ2, hbr, hf, hsz, HQ1, HQ3⟩
        · have hq0 : (Q.drop h).length = 0 := by simp; omega
          exact (hBF.out.closed (by omega) HW.out).elim
end Go.Proofs.Qxb6600485a
