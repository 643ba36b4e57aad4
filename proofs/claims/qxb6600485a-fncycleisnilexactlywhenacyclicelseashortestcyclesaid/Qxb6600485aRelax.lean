/-
  shortestCycleLen_hb1: its contract.
-/
import Derived.Test.Qxb6600485aSimple
import Derived.Test.Qxb6600485aRelaxPlain
namespace Go.Proofs.Qxb6600485a
open Go.RowKit
set_option linter.unusedVariables false

/-- an array of integers -/
def IRow (w : World) (g n : Nat) (d : Nat → Int) : Prop := ARow w g n (fun j => .int .i64 (d j))
theorem IRow.setInt {w : World} {g n : Nat} {d : Nat → Int} (h : IRow w g n d) (k : Nat) (x : Int) (hk : k < n) : IRow (w.setCell ⟨g, k, none⟩ (.int .i64 x)) g n (upd d k x) :=
  (ARow.set h k _ hk).congr fun j _ => by
    by_cases e : j = k
    · subst e; rw [upd_same, upd_same]
    · rw [upd_other _ _ _ _ e, upd_other _ _ _ _ e]

/-- the first world of a round, what the round keeps -/
def RI (n : Nat) (L : Nat → Nat) (E : Nat → Nat → Nat) (v u : Nat) (d0 d : Nat → Int) (ch : Bool) : Prop :=
  BI n L E v d ∧ Und n d0 d ∧ (∀ x, x < u → 0 ≤ d0 x → Near L E v x (L x) (d0 x) d) ∧ (ch = false → ∀ x, x < n → d x = d0 x)

set_option maxRecDepth 100000 in
set_option maxHeartbeats 4000000 in
theorem relax21 (w : World) (a : Option Addr) (n c : Nat) (L : Nat → Nat) (E : Nat → Nat → Nat) (hr : Gr w a n c L E) (hn : n ≤ 4096) (hL : ∀ i, i < n → L i ≤ 131072) (hE : ∀ i, i < n → ∀ j, j < L i → E i j < n) (v M : Nat) (hv : v < n) (hM : IsMin (Ed n L E) v M) (hMn : M ≤ n) :
    Calls Try.prog 21 #[.slice a n c, .int .i64 v] w fun e w' => e = .returned (.int .i64 M) ∧ Below w.heap.size w w' := by
  have HL : Hid (∀ i, i < n → L i ≤ 131072) := hL
  have HE : Hid (∀ i, i < n → ∀ j, j < L i → E i j < n) := hE
  have HM : Hid (IsMin (Ed n L E) v M) := hM
  clear hL hE hM
  obtain ⟨i0, hi, hz0, hz1, hz2⟩ := info_parts Try.info3
  have hvi : (v : Int) < n := by omega
  go_enter Try.func21, Try.ntmps21
  go_wp2_with (at_make; refine wpList_make_full _ rfl _ _ 22 rfl w.heap.size 3 i0 _ 1 Try.underlying22 hi hz0 hz1 _ _ _ _ n rfl rfl rfl rfl ?b1 ?b2 ?b3 ?_)
  case b1 => rw [hz2]; omega
  case b2 => unfold maxLen; omega
  case b3 => exact Nat.le_refl _
  intro w1 hown hgrow
  have hfill : IRow w1 w.heap.size n (fun _ => 0) := ARow.made (.int .i64 0) hown (toList_madeCells_one _ n)
  have hbel : Below w.heap.size w w1 := (Below.refl _ _).grown hgrow (Nat.le_refl _) (by simp)
  clear hown hgrow
  go_wp2
  go_loopw [7] (fun i wr => ∃ (k : Nat) (d : Nat → Int), k ≤ n ∧ i = .int .i64 k ∧ Below w.heap.size w wr ∧ IRow wr w.heap.size n d ∧ Hid (∀ x, x < k → d x = -1)) (fun i _ => n - (intOf i).toNat)
  case atStart => exact ⟨0, _, Nat.zero_le _, rfl, hbel, hfill, fun x hx => absurd hx (by omega)⟩
  case round =>
    clear hfill hbel
    obtain ⟨k, d, hk, rfl, hbr, hd, hd1⟩ := hrel
    by_cases hlt : k < n
    · have g0 : wr.cell? ⟨w.heap.size, k, none⟩ = some (.int .i64 (d k)) := (hd k hlt).1
      have f0 := (hd k hlt).2
      have hset := hd.setInt k (-1) hlt
      have hd2 : Hid (∀ x, x < k + 1 → upd d k (-1) x = -1) := by
        intro x hx
        by_cases e : x = k
        · subst e; rw [upd_same]
        · rw [upd_other _ _ _ _ e]; exact hd1.out x (by omega)
      have HSET : Hid (IRow (wr.setCell ⟨w.heap.size, k, none⟩ (.int .i64 (-1))) w.heap.size n (upd d k (-1))) := hset
      clear hset hd hd1
      go_wp2
      go_roundw
      case rel => exact ⟨k + 1, _, by omega, by go_num, hbr.setCell (by simp) _, HSET.out, hd2⟩
      case measure => simp [intOf]; omega
    · obtain rfl : k = n := by omega
      have g0 : wr.cell? ⟨w.heap.size, v, none⟩ = some (.int .i64 (d v)) := (hd v hv).1
      have f0 := (hd v hv).2
      have hset := hd.setInt v 0 hv
      have hbS : Below w.heap.size w (wr.setCell ⟨w.heap.size, v, none⟩ (.int .i64 0)) := hbr.setCell (by simp) _
      have hdx : ∀ x, x < k → x ≠ v → upd d v 0 x = -1 := fun x hx hne => by rw [upd_other _ _ _ _ hne]; exact hd1.out x hx
      have hB : Hid (BI k L E v (upd d v 0)) := by
        have hv0 : upd d v 0 v = 0 := upd_same _ _ _
        refine ⟨hv0, fun x hx => ?_, fun x hx h0 => ?_, fun x hx h0 => ?_⟩
        · by_cases e : x = v
          · subst e; rw [hv0]; omega
          · rw [hdx x hx e]; omega
        · by_cases e : x = v
          · subst e; rw [hv0]; rfl
          · rw [hdx x hx e] at h0; omega
        · by_cases e : x = v
          · subst e
            rw [hv0, vis_new d x 0 (by rw [hd1.out x hx]; omega) (by omega) k hx]
            omega
          · rw [hdx x hx e] at h0; omega
      have hLV : Hid (LV k L E v 0 (upd d v 0)) := by
        intro t ht x hx hw
        have : t = 0 := by omega
        subst this
        have : v = x := hw
        subst this; rw [upd_same]; exact ⟨Int.le_refl _, Int.le_refl _⟩
      have HSET : Hid (IRow (wr.setCell ⟨w.heap.size, v, none⟩ (.int .i64 0)) w.heap.size k (upd d v 0)) := hset
      clear hset hd hd1 hdx hbr
      go_wp2
      go_loopw [8, 9, 10, 11, 12] (fun i _ _ _ _ wr => ∃ (r : Nat) (d : Nat → Int), r ≤ k ∧ i = .int .i64 r ∧ Below w.heap.size w wr ∧ IRow wr w.heap.size k d ∧ Hid (BI k L E v d) ∧ Hid (LV k L E v r d)) (fun i _ _ _ _ _ => k - (intOf i).toNat)
      case atStart => exact ⟨0, _, Nat.zero_le _, rfl, hbS, HSET.out, hB, hLV⟩
      case round =>
        clear hbS HSET hB hLV g0 f0
        obtain ⟨r, d0, hrk, rfl, hbr, hd0, hB0, hLV⟩ := hrel
        by_cases hrl : r < k
        · go_wp2
          go_loopw [9, 10, 11, 12] (fun ch i _ _ wr => ∃ (u : Nat) (d : Nat → Int) (b : Bool), u ≤ k ∧ i = .int .i64 u ∧ ch = .bool b ∧ Below w.heap.size w wr ∧ IRow wr w.heap.size k d ∧ Hid (RI k L E v u d0 d b)) (fun _ i _ _ _ => k - (intOf i).toNat)
          case atStart => exact ⟨0, d0, false, Nat.zero_le _, rfl, rfl, hbr, hd0, hB0.out, Und.refl _ _, fun x hx => absurd hx (by omega), fun _ x _ => rfl⟩
          case round =>
            clear hbr hd0
            obtain ⟨u, d, b, hu, rfl, rfl, hbr, hd, hRI⟩ := hrel
            by_cases hul : u < k
            · have g0 : wr.cell? ⟨w.heap.size, u, none⟩ = some (.int .i64 (d u)) := (hd u hul).1
              have hbd := hRI.out.1.bound hul
              by_cases hneg : d u < 0
              · have hRI2 : Hid (RI k L E v (u + 1) d0 d b) := ⟨hRI.out.1, hRI.out.2.1, fun x hx h0 => by
                  by_cases e : x = u
                  · subst e; have := (hRI.out.2.1 x hul h0).1; omega
                  · exact hRI.out.2.2.1 x (by omega) h0, hRI.out.2.2.2⟩
                clear hRI
                go_wp2
                go_roundw
                case rel => exact ⟨u + 1, d, b, by omega, by go_num, rfl, hbr, hd, hRI2⟩
                case measure => simp [intOf]; omega
              · have hLu := HL.out u hul
                have hui : (u : Int) < k := by omega
                obtain ⟨du, hdu⟩ : ∃ x, x = d u := ⟨_, rfl⟩
                have HDU : Hid (d u = du) := hdu.symm
                have hdu0 : 0 ≤ du := by omega
                have hdub : du < k := by omega
                rw [← hdu] at g0 hneg hbd
                clear hdu
                go_wp2
                go_loopw [9, 11, 12] (fun ch jj _ wr => ∃ (j : Nat) (d : Nat → Int) (b : Bool), j ≤ L u ∧ jj = .int .i64 j ∧ ch = .bool b ∧ Below w.heap.size w wr ∧ IRow wr w.heap.size k d ∧ Hid (RI k L E v u d0 d b) ∧ Hid (d u = du) ∧ Hid (Near L E v u j du d)) (fun _ jj _ _ => L u - (intOf jj).toNat)
                case atStart => exact ⟨0, d, b, Nat.zero_le _, rfl, rfl, hbr, hd, hRI, HDU, fun i hi => absurd hi (by omega)⟩
                case round =>
                  clear hbr hd hRI HDU g0 hbd hneg
                  obtain ⟨j, d, b, hj, rfl, rfl, hbr, hd, hRI, HDU, hNr⟩ := hrel
                  obtain ⟨rb, ro, x, dd, rfl, r0, hx1, hx2⟩ := (hr.later hbr).node hul
                  by_cases hjt : j < L u
                  · obtain ⟨xb, xo, rfl⟩ := hx1 (by omega)
                    have r1 := hx2 xb xo rfl j hjt
                    have hwn := HE.out u hul j hjt
                    have hwi : ((E u j : Nat) : Int) < k := by omega
                    have g0 : wr.cell? ⟨w.heap.size, u, none⟩ = some (.int .i64 du) := by have h := (hd u hul).1; simp only [HDU.out] at h; exact h
                    have g1 : wr.cell? ⟨w.heap.size, E u j, none⟩ = some (.int .i64 (d (E u j))) := (hd _ hwn).1
                    have f1 := (hd _ hwn).2
                    have hbw := hRI.out.1.bound hwn
                    have hwr : IntKind.i64.wrap (du + 1) = du + 1 := by rw [IntKind.wrap_i64]; omega
                    clear hx1 hx2
                    by_cases hev : E u j = v
                    · have hb0 : (((E u j : Nat) : Int) != (v : Int)) = false := by simp; omega
                      have hNr2 : Hid (Near L E v u (j + 1) du d) := by
                        intro i hi hne
                        by_cases e : i = j
                        · subst e; exact absurd hev hne
                        · exact hNr.out i (by omega) hne
                      clear hev hNr
                      generalize E u j = t at *
                      go_wp2
                      go_quiet (fail)
                      go_wp2
                      go_roundw
                      case rel => exact ⟨j + 1, d, b, by omega, by go_num, rfl, below_drewN hbr _, hd, hRI, HDU, hNr2⟩
                      case measure => simp [intOf]; omega
                    · have hb0 : (((E u j : Nat) : Int) != (v : Int)) = true := by simp; omega
                      by_cases hup : d (E u j) < 0 ∨ du + 1 < d (E u j)
                      · have hneu : E u j ≠ u := fun e => by
                          rw [e, HDU.out] at hup
                          omega
                        have hB2 := hRI.out.1.relax hul hjt hwn hev (by rw [HDU.out]; exact hdu0) (by rw [HDU.out]; exact hup)
                        rw [HDU.out] at hB2
                        have hU2 : Und k d (upd d (E u j) (du + 1)) := und_upd (by omega) hup
                        have hRI2 : Hid (RI k L E v u d0 (upd d (E u j) (du + 1)) true) := ⟨hB2, hRI.out.2.1.relax (by omega) hup, fun x hx h0 => (hRI.out.2.2.1 x hx h0).und hU2 (fun i hi => HE.out x (by omega) i hi), fun h => by cases h⟩
                        have HDU2 : Hid (upd d (E u j) (du + 1) u = du) := by rw [upd_other _ _ _ _ (Ne.symm hneu)]; exact HDU.out
                        have hNr2 : Hid (Near L E v u (j + 1) du (upd d (E u j) (du + 1))) := by
                          intro i hi hne
                          by_cases e : E u i = E u j
                          · rw [e, upd_same]; omega
                          · have hij : i ≠ j := fun h => e (by rw [h])
                            rw [upd_other _ _ _ _ e]
                            exact hNr.out i (by omega) hne
                        have hset := hd.setInt (E u j) (du + 1) hwn
                        have HSET : Hid (IRow (wr.setCell ⟨w.heap.size, E u j, none⟩ (.int .i64 (du + 1))) w.heap.size k (upd d (E u j) (du + 1))) := hset
                        clear hset hB2 hU2 hNr hRI HDU hd hev
                        have hbS : Below w.heap.size w (wr.setCell ⟨w.heap.size, E u j, none⟩ (.int .i64 (du + 1))) := hbr.setCell (by simp) _
                        rcases hup with hup | hup
                        · have hd1 : decide (d (E u j) < 0) = true := by simpa using hup
                          generalize E u j = t at *
                          generalize d t = dt at *
                          go_wp2
                          go_quiet (fail)
                          go_wp2
                          go_roundw
                          case rel => exact ⟨j + 1, _, true, by omega, by go_num, rfl, below_drewN hbS _, HSET.out, hRI2, HDU2, hNr2⟩
                          case measure => simp [intOf]; omega
                        · have hd1 : decide (d (E u j) < 0) = false := by simp; omega
                          have hd2 : decide (du + 1 < d (E u j)) = true := by simpa using hup
                          generalize E u j = t at *
                          generalize d t = dt at *
                          go_wp2
                          go_quiet (fail)
                          go_wp2
                          go_roundw
                          case rel => exact ⟨j + 1, _, true, by omega, by go_num, rfl, below_drewN hbS _, HSET.out, hRI2, HDU2, hNr2⟩
                          case measure => simp [intOf]; omega
                      · have hNr2 : Hid (Near L E v u (j + 1) du d) := by
                          intro i hi hne
                          by_cases e : i = j
                          · subst e; omega
                          · exact hNr.out i (by omega) hne
                        have hd1 : decide (d (E u j) < 0) = false := by simp; omega
                        have hd2 : decide (du + 1 < d (E u j)) = false := by simp; omega
                        clear hNr hup hev
                        generalize E u j = t at *
                        go_wp2
                        go_quiet (fail)
                        go_wp2
                        go_roundw
                        case rel => exact ⟨j + 1, d, b, by omega, by go_num, rfl, below_drewN hbr _, hd, hRI, HDU, hNr2⟩
                        case measure => simp [intOf]; omega
                  · have hRI2 : Hid (RI k L E v (u + 1) d0 d b) := ⟨hRI.out.1, hRI.out.2.1, fun y hy h0 => by
                      by_cases e : y = u
                      · subst e
                        intro i hi hne
                        have h1 := hNr.out i (by omega) hne
                        have h2 := hRI.out.2.1 y hul h0
                        rw [HDU.out] at h2
                        omega
                      · exact hRI.out.2.2.1 y (by omega) h0, hRI.out.2.2.2⟩
                    clear hx1 hx2 hNr hRI
                    go_wp2
                    go_roundw
                    case rel => exact ⟨u + 1, d, b, by omega, by go_num, rfl, hbr, hd, hRI2⟩
                    case measure => simp [intOf]; omega
            · obtain rfl : u = k := by omega
              cases b with
              | true =>
                have hLV2 : Hid (LV u L E v (r + 1) d) := hLV.out.step hRI.out.1 hv hRI.out.2.2.1
                have hB2 : Hid (BI u L E v d) := hRI.out.1
                clear hRI hLV hB0
                go_wp2
                go_roundw
                case rel => exact ⟨r + 1, d, by omega, by go_num, hbr, hd, hB2, hLV2⟩
                case measure => simp [intOf]; omega
              | false =>
                have hB2 : Hid (BI u L E v d) := hRI.out.1
                have hLV2 : Hid (LV u L E v u d) := LV.all hRI.out.1 hv (fun x hx h0 => by
                  have h1 := hRI.out.2.2.2 rfl x hx
                  have h2 := hRI.out.2.2.1 x hx (by rw [← h1]; exact h0)
                  rw [← h1] at h2
                  exact h2) u
                clear hRI hLV hB0
                go_wp2
                obtain ⟨x0, j0, hx0, hj0, he0, hdx0, hdx1⟩ : ∃ x0 j0, x0 < u ∧ j0 < L x0 ∧ E x0 j0 = v ∧ 0 ≤ d x0 ∧ d x0 + 1 ≤ M := by
                  obtain ⟨m1, m2, m3⟩ := HM.out
                  obtain ⟨m, rfl⟩ : ∃ m, M = m + 1 := ⟨M - 1, by omega⟩
                  obtain ⟨x0, hw0, hx0, j0, hj0, he0⟩ := m2
                  have := hLV2.out m (by omega) x0 hx0 hw0
                  exact ⟨x0, j0, hx0, hj0, he0, this.1, by omega⟩
                have hlow : Hid (∀ t, t < u → 0 ≤ d t → ∀ j, j < L t → E t j = v → (M : Int) ≤ d t + 1) := by
                  intro t ht h0 j hj he
                  have := HM.out.2.2 ((d t).toNat + 1) (by omega) ⟨t, hB2.out.2.2.1 t ht h0, ht, j, hj, he⟩
                  omega
                have hM1 : 1 ≤ M := HM.out.1
                have HE0 : Hid (E x0 j0 = v) := he0
                have HGr := hr.later hbr
                clear he0 hr
                go_loop [13, 14, 15] (fun bst i _ => ∃ (t : Nat) (best : Int), t ≤ u ∧ i = .int .i64 t ∧ bst = .int .i64 best ∧ best ≤ u ∧ -1 ≤ best ∧ Hid (best = -1 ∨ (M : Int) ≤ best) ∧ Hid (x0 < t → best = M)) (fun _ i _ => u - (intOf i).toNat)
                case atStart => exact ⟨0, -1, Nat.zero_le _, rfl, rfl, by omega, by omega, .inl rfl, fun h => absurd h (by omega)⟩
                case round =>
                  obtain ⟨t, best, ht, rfl, rfl, hbn, hbm, hbo, hbx⟩ := hrel
                  by_cases htl : t < u
                  · have g0 : wr.cell? ⟨w.heap.size, t, none⟩ = some (.int .i64 (d t)) := (hd t htl).1
                    have hbd := hB2.out.bound htl
                    by_cases hneg : d t < 0
                    · have hbx2 : Hid (x0 < t + 1 → best = M) := by
                        intro h
                        by_cases e : x0 = t
                        · subst e; omega
                        · exact hbx.out (by omega)
                      clear hbx
                      go_wp2
                      go_round
                      case rel => exact ⟨t + 1, best, by omega, by go_num, rfl, hbn, hbm, hbo, hbx2⟩
                      case measure => simp [intOf]; omega
                    · have hLt := HL.out t htl
                      have hti : (t : Int) < u := by omega
                      obtain ⟨rb, ro, x, dd, rfl, r0, hx1, hx2⟩ := HGr.node htl
                      have HX1 : Hid (0 < L t → ∃ xb xo, x = some ⟨xb, xo, none⟩) := hx1
                      have HX2 : Hid (∀ xb xo, x = some ⟨xb, xo, none⟩ → ∀ j, j < L t → wr.cell? ⟨xb, xo + j, none⟩ = some (.int .i64 ((E t j : Nat) : Int))) := hx2
                      have hl2 : Hid (∀ j, j < L t → E t j = v → (M : Int) ≤ d t + 1) := fun j hj he => hlow.out t htl (by omega) j hj he
                      have hxt : Hid (x0 = t → d t + 1 ≤ M) := fun e => by subst e; exact hdx1
                      clear hx1 hx2
                      generalize d t = dt at g0 hbd hneg hl2 hxt
                      go_wp2
                      go_loop [13, 15] (fun bst jj => ∃ (j : Nat) (best : Int), j ≤ L t ∧ jj = .int .i64 j ∧ bst = .int .i64 best ∧ best ≤ u ∧ -1 ≤ best ∧ Hid (best = -1 ∨ (M : Int) ≤ best) ∧ Hid ((x0 < t ∨ (x0 = t ∧ j0 < j)) → best = M)) (fun _ jj => L t - (intOf jj).toNat)
                      case atStart => exact ⟨0, best, Nat.zero_le _, rfl, rfl, hbn, hbm, hbo, fun h => h.elim (fun h => hbx.out h) (fun h => absurd h.2 (by omega))⟩
                      case round =>
                        clear hbo hbx hbn hbm
                        obtain ⟨j, best, hj, rfl, rfl, hbn, hbm, hbo, hbx⟩ := hrel
                        by_cases hjt : j < L t
                        · obtain ⟨xb, xo, rfl⟩ := HX1.out (by omega)
                          have r1 := HX2.out xb xo rfl j hjt
                          by_cases hev : E t j = v
                          · have hb0 : (((E t j : Nat) : Int) == (v : Int)) = true := by simp; omega
                            have hMd := hl2.out j hjt hev
                            by_cases hup : best < 0 ∨ dt + 1 < best
                            · have hbo2 : Hid (dt + 1 = -1 ∨ (M : Int) ≤ dt + 1) := .inr hMd
                              have hbx2 : Hid ((x0 < t ∨ (x0 = t ∧ j0 < j + 1)) → dt + 1 = M) := by
                                rintro (h | ⟨h, _⟩)
                                · have h1 := hbx.out (.inl h)
                                  omega
                                · have h1 := hxt.out h
                                  omega
                              clear hbx hbo hev
                              rcases hup with hup | hup
                              · have hd1 : decide (best < 0) = true := by simpa using hup
                                generalize E t j = y at *
                                go_wp2
                                go_round
                                case rel => exact ⟨j + 1, dt + 1, by omega, by go_num, rfl, by omega, by omega, hbo2, hbx2⟩
                                case measure => simp [intOf]; omega
                              · have hd1 : decide (best < 0) = false := by simp; omega
                                have hd2 : decide (dt + 1 < best) = true := by simpa using hup
                                generalize E t j = y at *
                                go_wp2
                                go_round
                                case rel => exact ⟨j + 1, dt + 1, by omega, by go_num, rfl, by omega, by omega, hbo2, hbx2⟩
                                case measure => simp [intOf]; omega
                            · have hbx2 : Hid ((x0 < t ∨ (x0 = t ∧ j0 < j + 1)) → best = M) := by
                                rintro (h | ⟨h, _⟩)
                                · exact hbx.out (.inl h)
                                · have h1 := hxt.out h
                                  have h2 := hbo.out
                                  omega
                              have hd1 : decide (best < 0) = false := by simp; omega
                              have hd2 : decide (dt + 1 < best) = false := by simp; omega
                              clear hbx hev hup
                              generalize E t j = y at *
                              go_wp2
                              go_round
                              case rel => exact ⟨j + 1, best, by omega, by go_num, rfl, hbn, hbm, hbo, hbx2⟩
                              case measure => simp [intOf]; omega
                          · have hb0 : (((E t j : Nat) : Int) == (v : Int)) = false := by simp; omega
                            have hbx2 : Hid ((x0 < t ∨ (x0 = t ∧ j0 < j + 1)) → best = M) := by
                              rintro (h | ⟨h, hh⟩)
                              · exact hbx.out (.inl h)
                              · by_cases e : j0 = j
                                · subst h; subst e; exact absurd HE0.out hev
                                · exact hbx.out (.inr ⟨h, by omega⟩)
                            clear hbx hev
                            generalize E t j = y at *
                            go_wp2
                            go_round
                            case rel => exact ⟨j + 1, best, by omega, by go_num, rfl, hbn, hbm, hbo, hbx2⟩
                            case measure => simp [intOf]; omega
                        · have hbx2 : Hid (x0 < t + 1 → best = M) := by
                            intro h
                            by_cases e : x0 = t
                            · exact hbx.out (.inr ⟨e, by rw [e] at hj0; omega⟩)
                            · exact hbx.out (.inl (by omega))
                          clear hbx
                          go_wp2
                          go_round
                          case rel => exact ⟨t + 1, best, by omega, by go_num, rfl, hbn, hbm, hbo, hbx2⟩
                          case measure => simp [intOf]; omega
                  · have hbM : best = M := hbx.out (by omega)
                    subst hbM
                    go_wp2
                    go_ret
                    exact ⟨rfl, hbr⟩
        · have hLV2 : Hid (LV k L E v k d0) := by
            obtain rfl : r = k := by omega
            exact hLV
          go_wp2
          obtain ⟨x0, j0, hx0, hj0, he0, hdx0, hdx1⟩ : ∃ x0 j0, x0 < k ∧ j0 < L x0 ∧ E x0 j0 = v ∧ 0 ≤ d0 x0 ∧ d0 x0 + 1 ≤ M := by
            obtain ⟨m1, m2, m3⟩ := HM.out
            obtain ⟨m, rfl⟩ : ∃ m, M = m + 1 := ⟨M - 1, by omega⟩
            obtain ⟨x0, hw0, hx0, j0, hj0, he0⟩ := m2
            have := hLV2.out m (by omega) x0 hx0 hw0
            exact ⟨x0, j0, hx0, hj0, he0, this.1, by omega⟩
          have hlow : Hid (∀ t, t < k → 0 ≤ d0 t → ∀ j, j < L t → E t j = v → (M : Int) ≤ d0 t + 1) := by
            intro t ht h0 j hj he
            have := HM.out.2.2 ((d0 t).toNat + 1) (by omega) ⟨t, hB0.out.2.2.1 t ht h0, ht, j, hj, he⟩
            omega
          have hM1 : 1 ≤ M := HM.out.1
          have HE0 : Hid (E x0 j0 = v) := he0
          have HGr := hr.later hbr
          clear he0 hr
          go_loop [13, 14, 15] (fun bst i _ => ∃ (t : Nat) (best : Int), t ≤ k ∧ i = .int .i64 t ∧ bst = .int .i64 best ∧ best ≤ k ∧ -1 ≤ best ∧ Hid (best = -1 ∨ (M : Int) ≤ best) ∧ Hid (x0 < t → best = M)) (fun _ i _ => k - (intOf i).toNat)
          case atStart => exact ⟨0, -1, Nat.zero_le _, rfl, rfl, by omega, by omega, .inl rfl, fun h => absurd h (by omega)⟩
          case round =>
            obtain ⟨t, best, ht, rfl, rfl, hbn, hbm, hbo, hbx⟩ := hrel
            by_cases htl : t < k
            · have g0 : wr.cell? ⟨w.heap.size, t, none⟩ = some (.int .i64 (d0 t)) := (hd0 t htl).1
              have hbd := hB0.out.bound htl
              by_cases hneg : d0 t < 0
              · have hbx2 : Hid (x0 < t + 1 → best = M) := by
                  intro h
                  by_cases e : x0 = t
                  · subst e; omega
                  · exact hbx.out (by omega)
                clear hbx
                go_wp2
                go_round
                case rel => exact ⟨t + 1, best, by omega, by go_num, rfl, hbn, hbm, hbo, hbx2⟩
                case measure => simp [intOf]; omega
              · have hLt := HL.out t htl
                have hti : (t : Int) < k := by omega
                obtain ⟨rb, ro, x, dd, rfl, r0, hx1, hx2⟩ := HGr.node htl
                have HX1 : Hid (0 < L t → ∃ xb xo, x = some ⟨xb, xo, none⟩) := hx1
                have HX2 : Hid (∀ xb xo, x = some ⟨xb, xo, none⟩ → ∀ j, j < L t → wr.cell? ⟨xb, xo + j, none⟩ = some (.int .i64 ((E t j : Nat) : Int))) := hx2
                have hl2 : Hid (∀ j, j < L t → E t j = v → (M : Int) ≤ d0 t + 1) := fun j hj he => hlow.out t htl (by omega) j hj he
                have hxt : Hid (x0 = t → d0 t + 1 ≤ M) := fun e => by subst e; exact hdx1
                clear hx1 hx2
                generalize d0 t = dt at g0 hbd hneg hl2 hxt
                go_wp2
                go_loop [13, 15] (fun bst jj => ∃ (j : Nat) (best : Int), j ≤ L t ∧ jj = .int .i64 j ∧ bst = .int .i64 best ∧ best ≤ k ∧ -1 ≤ best ∧ Hid (best = -1 ∨ (M : Int) ≤ best) ∧ Hid ((x0 < t ∨ (x0 = t ∧ j0 < j)) → best = M)) (fun _ jj => L t - (intOf jj).toNat)
                case atStart => exact ⟨0, best, Nat.zero_le _, rfl, rfl, hbn, hbm, hbo, fun h => h.elim (fun h => hbx.out h) (fun h => absurd h.2 (by omega))⟩
                case round =>
                  clear hbo hbx hbn hbm
                  obtain ⟨j, best, hj, rfl, rfl, hbn, hbm, hbo, hbx⟩ := hrel
                  by_cases hjt : j < L t
                  · obtain ⟨xb, xo, rfl⟩ := HX1.out (by omega)
                    have r1 := HX2.out xb xo rfl j hjt
                    by_cases hev : E t j = v
                    · have hb0 : (((E t j : Nat) : Int) == (v : Int)) = true := by simp; omega
                      have hMd := hl2.out j hjt hev
                      by_cases hup : best < 0 ∨ dt + 1 < best
                      · have hbo2 : Hid (dt + 1 = -1 ∨ (M : Int) ≤ dt + 1) := .inr hMd
                        have hbx2 : Hid ((x0 < t ∨ (x0 = t ∧ j0 < j + 1)) → dt + 1 = M) := by
                          rintro (h | ⟨h, _⟩)
                          · have h1 := hbx.out (.inl h)
                            omega
                          · have h1 := hxt.out h
                            omega
                        clear hbx hbo hev
                        rcases hup with hup | hup
                        · have hd1 : decide (best < 0) = true := by simpa using hup
                          generalize E t j = y at *
                          go_wp2
                          go_round
                          case rel => exact ⟨j + 1, dt + 1, by omega, by go_num, rfl, by omega, by omega, hbo2, hbx2⟩
                          case measure => simp [intOf]; omega
                        · have hd1 : decide (best < 0) = false := by simp; omega
                          have hd2 : decide (dt + 1 < best) = true := by simpa using hup
                          generalize E t j = y at *
                          go_wp2
                          go_round
                          case rel => exact ⟨j + 1, dt + 1, by omega, by go_num, rfl, by omega, by omega, hbo2, hbx2⟩
                          case measure => simp [intOf]; omega
                      · have hbx2 : Hid ((x0 < t ∨ (x0 = t ∧ j0 < j + 1)) → best = M) := by
                          rintro (h | ⟨h, _⟩)
                          · exact hbx.out (.inl h)
                          · have h1 := hxt.out h
                            have h2 := hbo.out
                            omega
                        have hd1 : decide (best < 0) = false := by simp; omega
                        have hd2 : decide (dt + 1 < best) = false := by simp; omega
                        clear hbx hev hup
                        generalize E t j = y at *
                        go_wp2
                        go_round
                        case rel => exact ⟨j + 1, best, by omega, by go_num, rfl, hbn, hbm, hbo, hbx2⟩
                        case measure => simp [intOf]; omega
                    · have hb0 : (((E t j : Nat) : Int) == (v : Int)) = false := by simp; omega
                      have hbx2 : Hid ((x0 < t ∨ (x0 = t ∧ j0 < j + 1)) → best = M) := by
                        rintro (h | ⟨h, hh⟩)
                        · exact hbx.out (.inl h)
                        · by_cases e : j0 = j
                          · subst h; subst e; exact absurd HE0.out hev
                          · exact hbx.out (.inr ⟨h, by omega⟩)
                      clear hbx hev
                      generalize E t j = y at *
                      go_wp2
                      go_round
                      case rel => exact ⟨j + 1, best, by omega, by go_num, rfl, hbn, hbm, hbo, hbx2⟩
                      case measure => simp [intOf]; omega
                  · have hbx2 : Hid (x0 < t + 1 → best = M) := by
                      intro h
                      by_cases e : x0 = t
                      · exact hbx.out (.inr ⟨e, by rw [e] at hj0; omega⟩)
                      · exact hbx.out (.inl (by omega))
                    clear hbx
                    go_wp2
                    go_round
                    case rel => exact ⟨t + 1, best, by omega, by go_num, rfl, hbn, hbm, hbo, hbx2⟩
                    case measure => simp [intOf]; omega
            · have hbM : best = M := hbx.out (by omega)
              subst hbM
              go_wp2
              go_ret
              exact ⟨rfl, hbr⟩
end Go.Proofs.Qxb6600485a
