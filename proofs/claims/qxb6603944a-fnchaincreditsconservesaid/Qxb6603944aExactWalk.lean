/-
  FnChainCreditsExact: the walk.
-/
import Derived.Test.Qxb6603944aCredits
namespace Go.Proofs.Qxb6603944a
open Go.RowKit
set_option linter.unusedVariables false

theorem flat3 {α : Type} (f : α → List Value) (hf : ∀ x, (f x).length = 3) (r : Nat) (hr : r < 3) : ∀ (l : List α) (j : Nat) (hj : j < l.length), (l.flatMap f)[j * 3 + r]? = (f l[j])[r]?
  | x :: l, 0, hj => by
    rw [List.flatMap_cons, List.getElem?_append_left (by rw [hf]; omega)]
    simp
  | x :: l, j + 1, hj => by
    rw [List.flatMap_cons, List.getElem?_append_right (by rw [hf]; omega), hf]
    have := flat3 f hf r hr l j (by simpa using hj)
    rw [show (j + 1) * 3 + r - 3 = j * 3 + r by omega, this]
    simp
  | [], j, hj => absurd hj (by simp)

/-- what ZZchainCredits hands back, credit by credit: the j-th is of position p -/
def CredRow (w : World) (g L n : Nat) (S : Nat → ByteArray) (Z : Nat → Int) (own above plat : ByteArray) : Prop :=
  ∀ j (hj : j < (nz Z n).length), ∃ q, w.cell? ⟨g, j * 3, none⟩ = some (.pointer q) ∧ w.cell? ⟨g, j * 3 + 1, none⟩ = some (.string (kindOf L own above plat (nz Z n)[j])) ∧ w.cell? ⟨g, j * 3 + 2, none⟩ = some (.int .i64 (Z (nz Z n)[j])) ∧
    (if (nz Z n)[j] < L then ∃ x, q = some ⟨x, 0, none⟩ ∧ w.cell? ⟨x, 0, none⟩ = some (.string (S (nz Z n)[j])) else q = none)

theorem CredRow.later {w w' : World} {g L n : Nat} {S : Nat → ByteArray} {Z : Nat → Int} {own above plat : ByteArray} (h : CredRow w g L n S Z own above plat) (hb : Below w.heap.size w w') : CredRow w' g L n S Z own above plat := by
  intro j hj
  obtain ⟨q, h0, h1, h2, h3⟩ := h j hj
  refine ⟨q, cell_later hb h0, cell_later hb h1, cell_later hb h2, ?_⟩
  split
  · rename_i hl
    rw [if_pos hl] at h3
    obtain ⟨x, e, hx⟩ := h3
    exact ⟨x, e, cell_later hb hx⟩
  · rename_i hl
    rw [if_neg hl] at h3
    exact h3

set_option maxHeartbeats 400000 in
theorem credits28_any (w : World) (a b : Option Addr) (L c n d : Nat) (S : Nat → ByteArray) (Z : Nat → Int) (own above plat : ByteArray) (hS : StrRow w a L c S) (hZ : IntRow w b n d Z) (hL : L ≤ 65536) (hn : n ≤ 65536) :
    Calls Try.prog 28 #[.slice a L c, .slice b n d, .string own, .string above, .string plat] w fun e w' => e = .returned (.slice (some ⟨w.heap.size, 0, none⟩) (nz Z n).length n) ∧ Below w.heap.size w w' ∧ CredRow w' w.heap.size L n S Z own above plat := by
  go_enter Try.func28, Try.ntmps28
  go_wp2_with fail
  refine (credits30_any w a b L c n d S Z own above plat hS hZ hL hn).mono ?_
  rintro e w' ⟨P, rfl, hb, hown, hP⟩
  have hr : CredRow w' w.heap.size L n S Z own above plat := by
    intro j hj
    have f := fun r hr => flat3 (cred Z L own above plat P) (fun _ => rfl) r hr (nz Z n) j hj
    refine ⟨P (nz Z n)[j], ?_, ?_, ?_, ?_⟩
    · have := hown.cellAt (j * 3 + 0) (by omega); rw [f 0 (by omega)] at this; exact this
    · have := hown.cellAt (j * 3 + 1) (by omega); rw [f 1 (by omega)] at this; exact this
    · have := hown.cellAt (j * 3 + 2) (by omega); rw [f 2 (by omega)] at this; exact this
    · have := hP (nz Z n)[j] (List.getElem_mem hj)
      unfold CodeAt at this
      split
      · rename_i hl
        rw [if_pos hl] at this
        obtain ⟨x, _, e, hx⟩ := this
        exact ⟨x, e, hx⟩
      · rename_i hl
        rw [if_neg hl] at this
        exact this
  clear hown hP
  go_wp2
  go_ret
  exact ⟨rfl, hb, hr⟩

/-- the law's own list of positions -/
def IdxInv (w : World) (B n : Nat) (Z : Nat → Int) (k : Nat) : Prop :=
  w.ownsRow B 3 1 (.slice (some ⟨B, 0, none⟩) (nz Z k).length n) (nz Z k).length ((nz Z k).map (fun i : Nat => Value.int .i64 i))

theorem IdxInv.miss {w : World} {B n : Nat} {Z : Nat → Int} {k : Nat} (h : IdxInv w B n Z k) (hz : (Z k == 0) = true) : IdxInv w B n Z (k + 1) := by
  unfold IdxInv at *
  rw [nz_miss Z k hz]
  exact h

theorem IdxInv.hit {w : World} {B n : Nat} {Z : Nat → Int} {k : Nat} (hz : (Z k == 0) = false) (h : w.ownsRow B 3 1 (.slice (some ⟨B, 0, none⟩) ((nz Z k).length + 1) n) ((nz Z k).length + 1) ((nz Z k).map (fun i : Nat => Value.int .i64 i) ++ [.int .i64 k])) : IdxInv w B n Z (k + 1) := by
  unfold IdxInv
  rw [nz_hit Z k hz]
  simpa using h

theorem IdxInv.cell {w : World} {B n : Nat} {Z : Nat → Int} {k j : Nat} (h : IdxInv w B n Z k) (hj : j < (nz Z k).length) : w.cell? ⟨B, j, none⟩ = some (.int .i64 ((nz Z k)[j] : Nat)) := by
  have := World.ownsRow.cellAt h j (by omega)
  rw [this]
  simp [hj]

/-- the positions are below n -/
theorem nz_get_lt (Z : Nat → Int) (n j : Nat) (hj : j < (nz Z n).length) : (nz Z n)[j] < n := nz_lt Z n _ (List.getElem_mem hj)

set_option maxRecDepth 100000 in
set_option maxHeartbeats 1000000 in
theorem law7_any (w : World) (a b : Option Addr) (L c n d : Nat) (S : Nat → ByteArray) (Z : Nat → Int) (own above plat : ByteArray) (hS : StrRow w a L c S) (hZ : IntRow w b n d Z) (hm : n ≤ maxLen) (h2 : own.size ≤ maxLen) (h3 : above.size ≤ maxLen) (h4 : plat.size ≤ maxLen) :
    Calls Try.prog 7 #[.slice a L c, .slice b n d, .string own, .string above, .string plat] w fun e w' => e = .returned (.bool true) ∧ Below w.heap.size w w' := by
  obtain ⟨i0, hi, hz0, hz1, hz2⟩ := info_parts Try.info3
  go_enter Try.func7, Try.ntmps7
  go_wp2_with fail
  refine (bytes24_any w a b L c n d S _ _ _ hS hm h2 h3 h4).mono ?_
  rintro e w' ⟨⟨r, rfl, _⟩, rfl⟩
  cases r with
  | false =>
    go_wp2
    go_ret
    exact ⟨rfl, Below.refl _ _⟩
  | true =>
  go_wp2_with fail
  refine (fits25_any _ _ _ _ _ _ _ S _ _ _ hS).mono ?_
  rintro e w' ⟨⟨r, rfl, hr⟩, rfl⟩
  cases r with
  | false =>
    clear hr
    go_wp2
    go_ret
    exact ⟨rfl, Below.refl _ _⟩
  | true =>
  obtain ⟨hL, hn⟩ := hr rfl
  clear hr
  go_wp2_with fail
  refine (clone26_any _ _ _ _ S hS hL).mono ?_
  rintro e w1 ⟨a1, c1, rfl, hb1, hS1⟩
  go_wp2_with fail
  refine (clone27_any _ _ _ _ Z (hZ.later hb1) hn).mono ?_
  rintro e w2 ⟨b2, d2, rfl, hb2, hZ2⟩
  have hS2 : StrRow w2 a1 L c1 S := hS1.later hb2
  clear hS1
  go_wp2_with fail
  refine (credits28_any _ _ _ _ _ _ _ S Z _ _ _ hS2 hZ2 hL hn).mono ?_
  rintro e w3 ⟨rfl, hb3, hC3⟩
  have hS3 : StrRow w3 a1 L c1 S := hS2.later hb3
  have hZ3 : IntRow w3 b2 n d2 Z := hZ2.later hb3
  have hb03 : Below w'.heap.size w' w3 := hb1.trans ((hb2.mono hb1.size).trans (hb3.mono (Nat.le_trans hb1.size hb2.size)))
  generalize hB : w2.heap.size = B at hC3 hb3
  clear hB hS2 hZ2 hb1 hb2 hb3 hS hZ
  go_wp2_with (at_make; refine wpList_make_own _ rfl _ _ 63 rfl w3.heap.size 3 i0 _ 1 Try.underlying63 hi hz0 hz1 _ _ _ n rfl rfl rfl ?b1 ?b2 ?b3 ?_)
  case b1 => rw [hz2]; omega
  case b2 => unfold maxLen; omega
  case b3 => exact Nat.le_refl _
  intro w4 hown4 hgrow4
  have hb4 : Below w3.heap.size w3 w4 := (Below.refl _ _).grown hgrow4 (Nat.le_refl _) (by simp)
  clear hgrow4
  have hI4 : IdxInv w4 w3.heap.size n Z 0 := hown4
  clear hown4
  generalize hB2 : w3.heap.size = B2 at hI4
  go_wp2
  go_loopw [12, 13] (fun v i wr => ∃ k : Nat, k ≤ n ∧ i = .int .i64 k ∧ v = .slice (some ⟨B2, 0, none⟩) (nz Z k).length n ∧ Below B2 w3 wr ∧ IdxInv wr B2 n Z k) (fun _ i _ => n - (intOf i).toNat)
  case atStart => exact ⟨0, Nat.zero_le _, rfl, rfl, by rw [← hB2]; exact hb4, hI4⟩
  case round =>
    obtain ⟨k, hk, rfl, rfl, hbr, hir⟩ := hrel
    clear hI4 hb4
    have hnk := nz_le Z k
    have hsz := hbr.size
    by_cases hlt : k < n
    · obtain ⟨rb, ro, hbe, hzc⟩ := hZ3.2 (by omega)
      subst hbe
      have r0 : wr.cell? ⟨rb, ro + k, none⟩ = some (.int .i64 (Z k)) := (hbr.cell (by rw [← hB2]; exact World.block_lt_of_cell? _ _ (hzc k hlt))).trans (hzc k hlt)
      clear hzc
      by_cases hz : (Z k == 0) = true
      · have hz' : (Z k != 0) = false := by simpa using hz
        go_wp2
        go_roundw
        case rel => exact ⟨k + 1, by omega, by go_num, by rw [nz_miss Z k hz], hbr, hir.miss hz⟩
        case measure => simp [intOf]; omega
      · have hz0' : (Z k == 0) = false := by simpa using hz
        have hz' : (Z k != 0) = true := by simpa using hz
        clear hz
        have hszB : B2 ≤ wr.heap.size := by omega
        have hown : wr.ownsRow B2 3 1 (.slice (some ⟨B2, 0, none⟩) (nz Z k).length n) (nz Z k).length ((nz Z k).map (fun i : Nat => Value.int .i64 i)) := hir
        clear hB2
        go_wp2_with (at_builtin; refine wpList_append_fits _ rfl _ _ 63 rfl B2 3 i0 1 Try.underlying63 hi hz1 B2 (nz Z k).length n _ rfl (hown.alloc _) ⟨wr.heap.size, 0, none⟩ 1 1 [.int .i64 k] rfl rfl ?c1 ?c2 ?c3 ?_)
        case c1 => exact cell_one_new _ _ _
        case c2 => intro u hu; simp at hu; subst hu; rfl
        case c3 => omega
        intro w5 hown5 hgrow5
        have hir5 : IdxInv w5 B2 n Z (k + 1) := IdxInv.hit hz0' hown5
        have hbr5 : Below B2 w3 w5 := (hbr.alloc hszB _).grown hgrow5 (by simp; omega) (by simp)
        clear hown5 hgrow5 hown hir
        go_wp2
        go_roundw
        case rel => exact ⟨k + 1, by omega, by go_num, by rw [nz_hit Z k hz0']; simp, hbr5, hir5⟩
        case measure => simp [intOf]; omega
    · obtain rfl : k = n := by omega
      have hbr3 : Below w3.heap.size w3 wr := by rw [hB2]; exact hbr
      have hS5 : StrRow wr a1 L c1 S := hS3.later hbr3
      have hZ5 : IntRow wr b2 k d2 Z := hZ3.later hbr3
      have hC5 : CredRow wr B L k S Z own above plat := hC3.later hbr3
      have hb05 : Below w'.heap.size w' wr := hb03.trans (hbr3.mono hb03.size)
      clear hS3 hZ3 hC3 hb03 hbr3 hbr hB2 hsz
      go_wp2
      go_loopw [14] (fun i wq => ∃ j : Nat, j ≤ (nz Z k).length ∧ i = .int .i64 j ∧ Below wr.heap.size wr wq) (fun i _ => (nz Z k).length - (intOf i).toNat)
      case atStart => exact ⟨0, Nat.zero_le _, rfl, Below.refl _ _⟩
      case round =>
        obtain ⟨j, hj, rfl, hbq⟩ := hrel
        by_cases hlt2 : j < (nz Z k).length
        · have hpn := nz_get_lt Z k j hlt2
          obtain ⟨q, q0, q1, q2, q3⟩ := (hC5.later hbq) j hlt2
          have x0 := cell_later hbq (hir.cell hlt2)
          have hS6 : StrRow wr a1 L c1 S := hS5.later hbq
          have hZ6 : IntRow wr b2 k d2 Z := hZ5.later hbq
          have fin := hb05.trans (hbq.mono hb05.size)
          clear hS5 hZ5 hC5 hir hb05
          generalize (nz Z k)[j] = p at hpn q1 q2 q3 x0
          obtain ⟨rb, ro, hbe, hzc⟩ := hZ6.2 (by omega)
          subst hbe
          have r0 := hzc p hpn
          have hrb := World.block_lt_of_cell? _ _ r0
          have hqB := World.block_lt_of_cell? _ _ q0
          have hxB := World.block_lt_of_cell? _ _ x0
          simp only at hrb hqB hxB
          have hpi : (p : Int) < k := by omega
          clear hzc hZ6
          by_cases hpL : p < L
          · rw [if_pos hpL] at q3
            obtain ⟨x, rfl, hx⟩ := q3
            obtain ⟨sb, so, hsa, hsc⟩ := hS6.2 (by omega)
            subst hsa
            have s0 := hsc p hpL
            have hsb := World.block_lt_of_cell? _ _ s0
            have hxx := World.block_lt_of_cell? _ _ hx
            simp only at hsb hxx
            have hpLi : (p : Int) < L := by omega
            clear hsc hS6
            by_cases hp0 : p = 0
            · have hkd : kindOf L own above plat p = own := by unfold kindOf; rw [if_pos hpL, if_pos hp0]
              rw [hkd] at q1
              have hp0i : ((p : Int) == 0) = true := by simp [hp0]
              have hp0j : decide ((0 : Int) < p) = false := by simp [hp0]
              have hple : p ≤ 0 := by omega
              clear hkd hp0
              go_wp2
              go_quiet (fail)
              go_wp2
              go_quiet (fail)
              go_wp2
              go_roundw
              case rel => exact ⟨j + 1, by omega, by go_num, below_drewN (hbq.alloc hbq.size _) _⟩
              case measure => simp [intOf]; omega
            · have hkd : kindOf L own above plat p = above := by unfold kindOf; rw [if_pos hpL, if_neg hp0]
              rw [hkd] at q1
              have hp0i : ((p : Int) == 0) = false := by simp; omega
              have hp0j : decide ((0 : Int) < p) = true := by simp; omega
              clear hkd
              go_wp2
              go_quiet (fail)
              go_wp2
              go_quiet (fail)
              go_wp2
              go_roundw
              case rel => exact ⟨j + 1, by omega, by go_num, below_drewN (hbq.alloc hbq.size _) _⟩
              case measure => simp [intOf]; omega
          · rw [if_neg hpL] at q3
            subst q3
            have hkd : kindOf L own above plat p = plat := by simp [kindOf, hpL]
            rw [hkd] at q1
            have hpLi : (L : Int) ≤ p := by omega
            clear hkd hS6
            go_wp2
            go_quiet (fail)
            go_wp2
            go_roundw
            case rel => exact ⟨j + 1, by omega, by go_num, below_drewN (hbq.alloc hbq.size _) _⟩
            case measure => simp [intOf]; omega
        · clear hS5 hZ5 hC5 hir
          go_wp2
          go_ret
          exact ⟨rfl, hb05.trans (hbq.mono hb05.size)⟩
end Go.Proofs.Qxb6603944a
