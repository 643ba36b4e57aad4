/-
  chainCredits: its contract.
-/
import Derived.Test.Qxb6603944aChain
namespace Go.Proofs.Qxb6603944a
open Go.RowKit
set_option linter.unusedVariables false

theorem Try.info66 : (Try.prog.info? 66).map (fun i => (i.zero, i.size, i.bytes)) = some (some (.agg #[.pointer none, .string ⟨#[]⟩, .int .i64 0]), 3, 32) := by kernel_rfl

/-- the positions, below k, of what is not 0 -/
def nz (Z : Nat → Int) (k : Nat) : List Nat := (List.range k).filter (fun i => Z i != 0)
theorem nz_zero (Z : Nat → Int) : nz Z 0 = [] := rfl
theorem nz_hit (Z : Nat → Int) (k : Nat) (h : (Z k == 0) = false) : nz Z (k + 1) = nz Z k ++ [k] := by
  unfold nz; rw [List.range_succ, List.filter_append]
  have h' : ¬ Z k = 0 := by simpa using h
  simp [h']
theorem nz_miss (Z : Nat → Int) (k : Nat) (h : (Z k == 0) = true) : nz Z (k + 1) = nz Z k := by
  unfold nz; rw [List.range_succ, List.filter_append]
  have h' : Z k = 0 := by simpa using h
  simp [h']
theorem nz_le (Z : Nat → Int) (k : Nat) : (nz Z k).length ≤ k := by
  unfold nz; have := List.length_filter_le (fun i => Z i != 0) (List.range k); simpa using this
theorem nz_lt (Z : Nat → Int) (k : Nat) : ∀ i ∈ nz Z k, i < k := by
  intro i hi; unfold nz at hi; simp at hi; exact hi.1

/-- the kind of position i -/
def kindOf (L : Nat) (own above plat : ByteArray) (i : Nat) : ByteArray := if i < L then (if i = 0 then own else above) else plat
/-- the three cells of position i's credit -/
def cred (Z : Nat → Int) (L : Nat) (own above plat : ByteArray) (P : Nat → Option Addr) (i : Nat) : List Value := [.pointer (P i), .string (kindOf L own above plat i), .int .i64 (Z i)]
/-- where position i's code lies -/
def CodeAt (w : World) (B L : Nat) (S : Nat → ByteArray) (P : Nat → Option Addr) (i : Nat) : Prop :=
  if i < L then ∃ g, B < g ∧ P i = some ⟨g, 0, none⟩ ∧ w.cell? ⟨g, 0, none⟩ = some (.string (S i)) else P i = none

/-- what the round keeps -/
def CrInv (w wr : World) (B L n : Nat) (S : Nat → ByteArray) (Z : Nat → Int) (own above plat : ByteArray) (k : Nat) : Prop :=
  Below B w wr ∧ ∃ P, wr.ownsRow B 66 3 (.slice (some ⟨B, 0, none⟩) (nz Z k).length n) (nz Z k).length ((nz Z k).flatMap (cred Z L own above plat P)) ∧ ∀ i ∈ nz Z k, CodeAt wr B L S P i

theorem CodeAt.kept {w wr w2 : World} {B L : Nat} {S : Nat → ByteArray} {P Q : Nat → Option Addr} {i : Nat} (h : CodeAt w B L S P i) (hc : ∀ g v, B < g → w.cell? ⟨g, 0, none⟩ = some v → w2.cell? ⟨g, 0, none⟩ = some v) (hP : Q i = P i) : CodeAt w2 B L S Q i := by
  unfold CodeAt at h ⊢
  split
  · rename_i hi
    rw [if_pos hi] at h
    obtain ⟨g, h1, h2, h3⟩ := h
    exact ⟨g, h1, hP.trans h2, hc g _ h1 h3⟩
  · rename_i hi
    rw [if_neg hi] at h
    exact hP.trans h

theorem CrInv.miss {w wr : World} {B L n : Nat} {S : Nat → ByteArray} {Z : Nat → Int} {own above plat : ByteArray} {k : Nat} (h : CrInv w wr B L n S Z own above plat k) (hz : (Z k == 0) = true) : CrInv w wr B L n S Z own above plat (k + 1) := by
  unfold CrInv at *
  rw [nz_miss Z k hz]
  exact h

theorem CrInv.hit {w wr W w2 : World} {B L n : Nat} {S : Nat → ByteArray} {Z : Nat → Int} {own above plat : ByteArray} {k : Nat} {P : Nat → Option Addr} {p : Option Addr} (hb : Below B w wr) (hP : ∀ i ∈ nz Z k, CodeAt wr B L S P i) (hBs : B ≤ wr.heap.size)
    (hz : (Z k == 0) = false) (hW : Below wr.heap.size wr W) (hg : W.grownBy w2 (some B)) (hp : if k < L then ∃ g, B < g ∧ p = some ⟨g, 0, none⟩ ∧ W.cell? ⟨g, 0, none⟩ = some (.string (S k)) else p = none)
    (hown : w2.ownsRow B 66 3 (.slice (some ⟨B, 0, none⟩) ((nz Z k).length + 1) n) ((nz Z k).length + 1) ((nz Z k).flatMap (cred Z L own above plat P) ++ [.pointer p, .string (kindOf L own above plat k), .int .i64 (Z k)])) :
    CrInv w w2 B L n S Z own above plat (k + 1) := by
  refine ⟨(hb.trans (hW.mono hBs)).grown hg (Nat.le_trans hBs hW.size) (by simp), fun i => if i = k then p else P i, ?_, ?_⟩
  · rw [nz_hit Z k hz, List.flatMap_append, List.length_append]
    have e1 : (nz Z k).flatMap (cred Z L own above plat fun i => if i = k then p else P i) = (nz Z k).flatMap (cred Z L own above plat P) := by
      rw [List.flatMap_def, List.flatMap_def]
      congr 1
      refine List.map_congr_left fun i hi => ?_
      have := nz_lt Z k i hi
      simp [cred, show ¬ i = k by omega]
    rw [e1]
    simpa [cred] using hown
  · intro i hi
    rw [nz_hit Z k hz] at hi
    rcases List.mem_append.1 hi with h | h
    · have hlt := nz_lt Z k i h
      refine CodeAt.kept (wr := wr) (hP i h) (fun g v hg1 hv => ?_) (by simp [show ¬ i = k by omega])
      have h1 : W.cell? ⟨g, 0, none⟩ = some v := (hW.cell (World.block_lt_of_cell? _ _ hv)).trans hv
      exact hg.cell h1 (by simp; omega)
    · have e : i = k := by simpa using h
      subst e
      unfold CodeAt
      split
      · rename_i hlt
        rw [if_pos hlt] at hp
        obtain ⟨g, h1, h2, h3⟩ := hp
        exact ⟨g, h1, by simp [h2], hg.cell h3 (by simp; omega)⟩
      · rename_i hlt
        rw [if_neg hlt] at hp
        simp [hp]

theorem cell_three_new (W : World) (N : Nat) (x y z : Value) (t : TypeId) (hN : N = W.heap.size) : ∀ j u, [x, y, z][j]? = some u → (W.alloc (.cells #[x, y, z] t)).cell? ((⟨N, 0, none⟩ : Addr).add j) = some u := by
  intro j u hj
  match j, hj with
  | 0, hj => simp at hj; subst hj; rw [Addr.add_lit, World.cell?_alloc_at _ _ _ _ hN]; rfl
  | 1, hj => simp at hj; subst hj; rw [Addr.add_lit, World.cell?_alloc_at _ _ _ _ hN]; rfl
  | 2, hj => simp at hj; subst hj; rw [Addr.add_lit, World.cell?_alloc_at _ _ _ _ hN]; rfl

theorem one_three (p : Option Addr) (s : ByteArray) (z : Int) : ∀ u ∈ [Value.pointer p, .string s, .int .i64 z], u.oneCell' = true := by
  intro u hu
  simp at hu
  rcases hu with rfl | rfl | rfl <;> rfl

set_option maxHeartbeats 1000000 in
theorem credits30_any (w : World) (a b : Option Addr) (L c n d : Nat) (S : Nat → ByteArray) (Z : Nat → Int) (own above plat : ByteArray) (hS : StrRow w a L c S) (hZ : IntRow w b n d Z) (hL : L ≤ 65536) (hn : n ≤ 65536) :
    Calls Try.prog 30 #[.slice a L c, .slice b n d, .string own, .string above, .string plat] w fun e w' => ∃ P, e = .returned (.slice (some ⟨w.heap.size, 0, none⟩) (nz Z n).length n) ∧ Below w.heap.size w w' ∧
      w'.ownsRow w.heap.size 66 3 (.slice (some ⟨w.heap.size, 0, none⟩) (nz Z n).length n) (nz Z n).length ((nz Z n).flatMap (cred Z L own above plat P)) ∧ ∀ i ∈ nz Z n, CodeAt w' w.heap.size L S P i := by
  obtain ⟨i0, hi, hz0, hz1, hz2⟩ := info_parts Try.info66
  go_enter Try.func30, Try.ntmps30
  go_wp2_with (at_make; refine wpList_make_own _ rfl _ _ 60 rfl w.heap.size 66 i0 _ 3 Try.underlying60 hi hz0 hz1 _ _ _ n rfl rfl rfl ?b1 ?b2 ?b3 ?_)
  case b1 => rw [hz2]; omega
  case b2 => unfold maxLen; omega
  case b3 => exact Nat.le_refl _
  intro w1 hown hgrow
  have hbel : Below w.heap.size w w1 := (Below.refl _ _).grown hgrow (Nat.le_refl _) (by simp)
  clear hgrow
  have hinv : CrInv w w1 w.heap.size L n S Z own above plat 0 := ⟨hbel, fun _ => none, hown, by simp [nz_zero]⟩
  clear hown hbel
  go_wp2
  go_loopw [11, 21] (fun v i wr => ∃ k : Nat, k ≤ n ∧ i = .int .i64 k ∧ v = .slice (some ⟨w.heap.size, 0, none⟩) (nz Z k).length n ∧ CrInv w wr w.heap.size L n S Z own above plat k) (fun _ i _ => n - (intOf i).toNat)
  case atStart => exact ⟨0, Nat.zero_le _, rfl, rfl, hinv⟩
  case round =>
    obtain ⟨k, hk, rfl, rfl, hir⟩ := hrel
    clear hinv
    have hnk := nz_le Z k
    by_cases hlt : k < n
    · obtain ⟨rb, ro, had, hc⟩ := hZ.2 (by omega)
      subst had
      have hrb : rb < w.heap.size := World.block_lt_of_cell? _ _ (hc k hlt)
      have r0 : wr.cell? ⟨rb, ro + k, none⟩ = some (.int .i64 (Z k)) := (hir.1.cell (by exact hrb)).trans (hc k hlt)
      have HC : Hid (∀ i, i < n → w.cell? ⟨rb, ro + i, none⟩ = some (.int .i64 (Z i))) := hc
      clear hc
      by_cases hz : (Z k == 0) = true
      · go_wp2
        go_roundw
        case rel => exact ⟨k + 1, by omega, by go_num, by rw [nz_miss Z k hz], hir.miss hz⟩
        case measure => simp [intOf]; omega
      · have hz' : (Z k == 0) = false := by simpa using hz
        clear hz
        have hsz := hir.1.size
        obtain ⟨hb, P, hown, hP⟩ := hir
        by_cases hkL : k < L
        · obtain ⟨sb, so, hsa, hsc⟩ := hS.2 (by omega)
          subst hsa
          have hsb : sb < w.heap.size := World.block_lt_of_cell? _ _ (hsc k hkL)
          have s0 : wr.cell? ⟨sb, so + k, none⟩ = some (.string (S k)) := (hb.cell (by exact hsb)).trans (hsc k hkL)
          have hsb2 : sb < wr.heap.size := by omega
          have HS : Hid (∀ i, i < L → w.cell? ⟨sb, so + i, none⟩ = some (.string (S i))) := hsc
          clear hsc
          by_cases hk0 : k = 0
          · have hk0i : ((k : Int) == 0) = true := by simp [hk0]
            have hkd : kindOf L own above plat k = own := by unfold kindOf; rw [if_pos hkL, if_pos hk0]
            have HK0 : Hid (k = 0) := hk0
            have HKD : Hid (kindOf L own above plat k = own) := hkd
            clear hk0 hkd
            go_wp2_with (at_builtin; refine wpList_append_fits _ rfl _ _ 60 rfl w.heap.size 66 i0 3 Try.underlying60 hi hz1 w.heap.size (nz Z k).length n _ rfl (((hown.alloc _).alloc _).alloc _) ⟨wr.heap.size + 1 + 1, 0, none⟩ 1 1 [.pointer (some ⟨wr.heap.size + 1, 0, none⟩), .string own, .int .i64 (Z k)] rfl rfl ?c1 ?c2 ?c3 ?_)
            case c1 => exact cell_three_new _ _ _ _ _ _ (by simp)
            case c2 => exact one_three _ _ _
            case c3 => omega
            intro w2 hown2 hgrow2
            have R : CrInv w w2 w.heap.size L n S Z own above plat (k + 1) := CrInv.hit hb hP hsz hz' ((((Below.refl _ _).alloc (Nat.le_refl _) _).alloc (by simp) _).alloc (by simp only [World.size_alloc]; omega) _) hgrow2 (by
              rw [if_pos hkL]
              refine ⟨wr.heap.size + 1, by omega, rfl, ?_⟩
              rw [World.cell?_alloc_past _ _ _ (by simp), World.cell?_alloc_at _ _ _ _ (by simp)]; rfl) (by rw [HKD.out]; exact hown2)
            clear hown2 hgrow2 hown hP
            go_wp2
            go_roundw
            case rel => exact ⟨k + 1, by omega, by go_num, by rw [nz_hit Z k hz']; simp, R⟩
            case measure => simp [intOf]; omega
          · have hk0i : ((k : Int) == 0) = false := by simp; exact hk0
            have hkd : kindOf L own above plat k = above := by simp [kindOf, hkL, hk0]
            have HKD : Hid (kindOf L own above plat k = above) := hkd
            clear hkd
            go_wp2_with (at_builtin; refine wpList_append_fits _ rfl _ _ 60 rfl w.heap.size 66 i0 3 Try.underlying60 hi hz1 w.heap.size (nz Z k).length n _ rfl (((hown.alloc _).alloc _).alloc _) ⟨wr.heap.size + 1 + 1, 0, none⟩ 1 1 [.pointer (some ⟨wr.heap.size + 1, 0, none⟩), .string above, .int .i64 (Z k)] rfl rfl ?c1 ?c2 ?c3 ?_)
            case c1 => exact cell_three_new _ _ _ _ _ _ (by simp)
            case c2 => exact one_three _ _ _
            case c3 => omega
            intro w2 hown2 hgrow2
            have R : CrInv w w2 w.heap.size L n S Z own above plat (k + 1) := CrInv.hit hb hP hsz hz' ((((Below.refl _ _).alloc (Nat.le_refl _) _).alloc (by simp) _).alloc (by simp only [World.size_alloc]; omega) _) hgrow2 (by
              rw [if_pos hkL]
              refine ⟨wr.heap.size + 1, by omega, rfl, ?_⟩
              rw [World.cell?_alloc_past _ _ _ (by simp), World.cell?_alloc_at _ _ _ _ (by simp)]; rfl) (by rw [HKD.out]; exact hown2)
            clear hown2 hgrow2 hown hP
            go_wp2
            go_roundw
            case rel => exact ⟨k + 1, by omega, by go_num, by rw [nz_hit Z k hz']; simp, R⟩
            case measure => simp [intOf]; omega
        · go_wp2_with (at_builtin; refine wpList_append_fits _ rfl _ _ 60 rfl w.heap.size 66 i0 3 Try.underlying60 hi hz1 w.heap.size (nz Z k).length n _ rfl ((hown.alloc _).alloc _) ⟨wr.heap.size + 1, 0, none⟩ 1 1 [.pointer none, .string plat, .int .i64 (Z k)] rfl rfl ?c1 ?c2 ?c3 ?_)
          case c1 => exact cell_three_new _ _ _ _ _ _ (by simp)
          case c2 => exact one_three _ _ _
          case c3 => omega
          intro w2 hown2 hgrow2
          have R : CrInv w w2 w.heap.size L n S Z own above plat (k + 1) := CrInv.hit hb hP hsz hz' (((Below.refl _ _).alloc (Nat.le_refl _) _).alloc (by simp) _) hgrow2 (by rw [if_neg hkL]) (by rw [show kindOf L own above plat k = plat by simp [kindOf, hkL]]; exact hown2)
          clear hown2 hgrow2 hown hP
          go_wp2
          go_roundw
          case rel => exact ⟨k + 1, by omega, by go_num, by rw [nz_hit Z k hz']; simp, R⟩
          case measure => simp [intOf]; omega
    · go_wp2
      go_ret
      obtain rfl : k = n := by omega
      obtain ⟨hb, P, hown, hP⟩ := hir
      exact ⟨P, rfl, hb, hown, hP⟩
end Go.Proofs.Qxb6603944a
