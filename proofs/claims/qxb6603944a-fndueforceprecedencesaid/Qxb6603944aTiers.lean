/-
  The contracts of the tiers' functions of the module: zzBytes.., cb1RuleFits, cb1CloneTiers, cb1ToTiers.
-/
import Derived.Test.Qxb6603944aRows
import Derived.WalkKit
import Derived.WalkSpells
import Derived.WalkLawsBesides
import Derived.Deep.QuietTactic
import Derived.BigQuiet
import Derived.BigRegion
namespace Go.Proofs.Qxb6603944a
open Go.RowKit
set_option linter.unusedVariables false

/-- the call returned some Bool r with p r -/
def RetB (p : Bool → Prop) (e : Ending) : Prop := ∃ r, e = .returned (.bool r) ∧ p r

/-- the rows of a slice of pairs of integers -/
def PairRow (w : World) (a : Option Addr) (n c : Nat) (T A : Nat → Int) : Prop :=
  (a = none → n = 0 ∧ c = 0) ∧
  (0 < n → ∃ rb ro, a = some ⟨rb, ro, none⟩ ∧ ∀ i, i < n → w.cell? ⟨rb, ro + i * 2, none⟩ = some (.int .i64 (T i)) ∧ w.cell? ⟨rb, ro + i * 2 + 1, none⟩ = some (.int .i64 (A i)))

/-- a pair of cells, a dimension and a slice of levels, at a pointer -/
def TiersIn (w : World) (b o : Nat) (dim : ByteArray) (n : Nat) (T A : Nat → Int) : Prop :=
  ∃ a c, w.cell? ⟨b, o, none⟩ = some (.string dim) ∧ w.cell? ⟨b, o + 1, none⟩ = some (.slice a n c) ∧ PairRow w a n c T A

theorem PairRow.later {w w' : World} {a : Option Addr} {n c : Nat} {T A : Nat → Int} (h : PairRow w a n c T A) (hb : Below w.heap.size w w') : PairRow w' a n c T A := by
  refine ⟨h.1, fun hn => ?_⟩
  obtain ⟨rb, ro, ha, hc⟩ := h.2 hn
  exact ⟨rb, ro, ha, fun i hi => ⟨cell_later hb (hc i hi).1, cell_later hb (hc i hi).2⟩⟩

theorem TiersIn.later {w w' : World} {b o : Nat} {dim : ByteArray} {n : Nat} {T A : Nat → Int} (h : TiersIn w b o dim n T A) (hb : Below w.heap.size w w') : TiersIn w' b o dim n T A := by
  obtain ⟨a, c, h0, h1, hr⟩ := h
  exact ⟨a, c, cell_later hb h0, cell_later hb h1, hr.later hb⟩

/-- a row that the call itself fills: n pairs, k of them laid -/
def Filling (w : World) (g n k : Nat) (T A : Nat → Int) : Prop :=
  (∀ j, j < n * 2 → ∃ v, w.cell? ⟨g, j, none⟩ = some v) ∧ (∀ j, w.frozen? ⟨g, j, none⟩ = false) ∧
  ∀ i, i < k → w.cell? ⟨g, i * 2, none⟩ = some (.int .i64 (T i)) ∧ w.cell? ⟨g, i * 2 + 1, none⟩ = some (.int .i64 (A i))

theorem Try.info43 : (Try.prog.info? 43).map (fun i => (i.zero, i.size, i.bytes)) = some (some (.agg #[.int .i64 0, .int .i64 0]), 2, 16) := by kernel_rfl
theorem Try.info68 : (Try.prog.info? 68).map (fun i => (i.zero, i.size, i.bytes)) = some (some (.agg #[.int .i64 0, .int .i64 0]), 2, 16) := by kernel_rfl

theorem Filling.start {w : World} {B B' e n : Nat} {xs : List Value} (T A : Nat → Int) (h : w.ownsRow B e 2 (.slice (some ⟨B', 0, none⟩) n n) n xs) (hx : xs.length = n * 2) : Filling w B' n 0 T A := by
  refine ⟨fun j hj => ?_, fun j => h.frozenAt j, fun i hi => absurd hi (by omega)⟩
  rw [h.cellAt j hj]
  exact ⟨xs[j]'(by omega), List.getElem?_eq_getElem _⟩

theorem cell_two {w : World} {g k : Nat} {x y u v : Value} (h0 : w.cell? ⟨g, k * 2, none⟩ = some u) (h1 : w.cell? ⟨g, k * 2 + 1, none⟩ = some v) (j : Nat) :
    ((w.setCell ⟨g, k * 2, none⟩ x).setCell ⟨g, k * 2 + 1, none⟩ y).cell? ⟨g, j, none⟩ = if j = k * 2 then some x else if j = k * 2 + 1 then some y else w.cell? ⟨g, j, none⟩ := by
  have g1 : (w.setCell ⟨g, k * 2, none⟩ x).cell? ⟨g, k * 2 + 1, none⟩ = some v := by
    rw [World.cell?_setCell_other _ _ _ _ (by simp)]; exact h1
  by_cases e0 : j = k * 2
  · subst e0
    rw [World.cell?_setCell_other _ _ _ _ (by simp), World.cell?_setCell_same _ _ _ h0, if_pos rfl]
  · by_cases e1 : j = k * 2 + 1
    · subst e1
      rw [World.cell?_setCell_same _ _ _ g1, if_neg e0, if_pos rfl]
    · rw [World.cell?_setCell_other _ _ _ _ (by simp), World.cell?_setCell_other _ _ _ _ (by simp), if_neg e0, if_neg e1]

theorem Filling.step {w : World} {g n k : Nat} {T A : Nat → Int} (h : Filling w g n k T A) (hk : k < n) :
    Filling ((w.setCell ⟨g, k * 2, none⟩ (.int .i64 (T k))).setCell ⟨g, k * 2 + 1, none⟩ (.int .i64 (A k))) g n (k + 1) T A := by
  obtain ⟨v0, g0⟩ := h.1 (k * 2) (by omega)
  obtain ⟨v1, g1⟩ := h.1 (k * 2 + 1) (by omega)
  have hc := cell_two (x := .int .i64 (T k)) (y := .int .i64 (A k)) g0 g1
  refine ⟨fun j hj => ?_, fun j => ?_, fun i hi => ?_⟩
  · rw [hc j]
    split
    · exact ⟨_, rfl⟩
    · split
      · exact ⟨_, rfl⟩
      · exact h.1 j hj
  · simpa using h.2.1 j
  · rw [hc, hc]
    by_cases e : i = k
    · subst e; simp
    · have := h.2.2 i (by omega)
      rw [if_neg (by omega), if_neg (by omega), if_neg (by omega), if_neg (by omega)]
      exact this

theorem Filling.shut {w : World} {g n c : Nat} {T A : Nat → Int} (h : Filling w g n n T A) (hg : g < w.heap.size) (dim : ByteArray) (t : TypeId) :
    TiersIn (w.alloc (.cells #[.string dim, .slice (some ⟨g, 0, none⟩) n c] t)) w.heap.size 0 dim n T A := by
  refine ⟨some ⟨g, 0, none⟩, c, by rw [World.cell?_alloc_at _ _ _ _ rfl]; rfl, by rw [World.cell?_alloc_at _ _ _ _ rfl]; rfl, by simp, fun hn => ⟨g, 0, rfl, fun i hi => ?_⟩⟩
  rw [World.cell?_alloc_past _ _ _ hg, World.cell?_alloc_past _ _ _ hg]
  simpa using h.2.2 i hi

set_option maxHeartbeats 400000 in
theorem bytes16_nil (s : ByteArray) (x1 x2 x5 x6 x7 : Int) (x4 : Bool) (w : World) (hs : s.size ≤ maxLen) :
    Calls Try.prog 16 #[.string s, .int .i64 x1, .int .i64 x2, .pointer none, .bool x4, .int .i64 x5, .int .i64 x6, .int .i64 x7] w fun e w' => RetB (fun _ => True) e ∧ w' = w := by
  unfold maxLen at hs
  go_enter Try.func16, Try.ntmps16
  go_wp2
  all_goals (go_ret; exact ⟨⟨_, rfl, trivial⟩, rfl⟩)

set_option maxHeartbeats 400000 in
theorem bytes16_ptr (s : ByteArray) (x1 x2 x5 x6 x7 : Int) (x4 : Bool) (w : World) (hs : s.size ≤ maxLen) (b o : Nat) (dim : ByteArray) (n : Nat) (T A : Nat → Int)
   (h : TiersIn w b o dim n T A) (hd : dim.size ≤ maxLen) (hn : n ≤ maxLen) :
    Calls Try.prog 16 #[.string s, .int .i64 x1, .int .i64 x2, .pointer (some ⟨b, o, none⟩), .bool x4, .int .i64 x5, .int .i64 x6, .int .i64 x7] w fun e w' => RetB (fun _ => True) e ∧ w' = w := by
  obtain ⟨a, c, h0, h1, _⟩ := h
  unfold maxLen at hs hd hn
  go_enter Try.func16, Try.ntmps16
  go_wp2
  all_goals (go_ret; exact ⟨⟨_, rfl, trivial⟩, rfl⟩)

set_option maxHeartbeats 400000 in
theorem bytes9_nil (s : ByteArray) (x1 x2 x5 x6 x7 : Int) (x4 : Bool) (w : World) (hs : s.size ≤ maxLen) :
    Calls Try.prog 9 #[.string s, .int .i64 x1, .int .i64 x2, .pointer none, .bool x4, .int .i64 x5, .int .i64 x6, .int .i64 x7] w fun e w' => RetB (fun _ => True) e ∧ w' = w := by
  unfold maxLen at hs
  go_enter Try.func9, Try.ntmps9
  go_wp2
  all_goals (go_ret; exact ⟨⟨_, rfl, trivial⟩, rfl⟩)

set_option maxHeartbeats 400000 in
theorem bytes9_ptr (s : ByteArray) (x1 x2 x5 x6 x7 : Int) (x4 : Bool) (w : World) (hs : s.size ≤ maxLen) (b o : Nat) (dim : ByteArray) (n : Nat) (T A : Nat → Int)
   (h : TiersIn w b o dim n T A) (hd : dim.size ≤ maxLen) (hn : n ≤ maxLen) :
    Calls Try.prog 9 #[.string s, .int .i64 x1, .int .i64 x2, .pointer (some ⟨b, o, none⟩), .bool x4, .int .i64 x5, .int .i64 x6, .int .i64 x7] w fun e w' => RetB (fun _ => True) e ∧ w' = w := by
  obtain ⟨a, c, h0, h1, _⟩ := h
  unfold maxLen at hs hd hn
  go_enter Try.func9, Try.ntmps9
  go_wp2
  all_goals (go_ret; exact ⟨⟨_, rfl, trivial⟩, rfl⟩)

set_option maxHeartbeats 400000 in
theorem fits10_nil (s : ByteArray) (w : World) (hs : s.size ≤ maxLen) :
    Calls Try.prog 10 #[.string s, .pointer none] w fun e w' => RetB (fun _ => True) e ∧ w' = w := by
  unfold maxLen at hs
  go_enter Try.func10, Try.ntmps10
  go_wp2
  all_goals (go_ret; exact ⟨⟨_, rfl, trivial⟩, rfl⟩)

set_option maxHeartbeats 400000 in
theorem fits10_ptr (s : ByteArray) (w : World) (hs : s.size ≤ maxLen) (b o : Nat) (dim : ByteArray) (n : Nat) (T A : Nat → Int)
   (h : TiersIn w b o dim n T A) (hd : dim.size ≤ maxLen) (hn : n ≤ maxLen) :
    Calls Try.prog 10 #[.string s, .pointer (some ⟨b, o, none⟩)] w fun e w' => RetB (fun r => r = true → n ≤ 65536) e ∧ ∃ m, w' = w.drewN m := by
  obtain ⟨a, c, h0, h1, _⟩ := h
  unfold maxLen at hs hd hn
  by_cases c1 : (1048576 : Int) < s.size
  · go_enter Try.func10, Try.ntmps10
    go_wp2
    go_ret
    exact ⟨⟨_, rfl, by simp⟩, 0, rfl⟩
  · by_cases c2 : (1048576 : Int) < dim.size
    · have d2 : decide ((1048576 : Int) < dim.size) = true := by simpa using c2
      go_enter Try.func10, Try.ntmps10
      go_wp2
      all_goals (go_ret; exact ⟨⟨_, rfl, by simp⟩, 0, rfl⟩)
    · have d2 : decide ((1048576 : Int) < dim.size) = false := by simpa using c2
      by_cases c3 : (65536 : Int) < n
      · go_enter Try.func10, Try.ntmps10
        go_wp2
        all_goals (go_ret; exact ⟨⟨_, rfl, by simp⟩, 0, rfl⟩)
      · go_enter Try.func10, Try.ntmps10
        go_wp2
        go_quiet (fail)
        go_wp2
        go_ret
        exact ⟨⟨_, rfl, by omega⟩, _, rfl⟩

theorem clone12_nil (w : World) : Calls Try.prog 12 #[.pointer none] w fun e w' => e = .returned (.pointer none) ∧ w' = w := by
  go_enter Try.func12, Try.ntmps12
  go_wp2
  go_ret
  exact ⟨rfl, rfl⟩

theorem to13_nil (w : World) : Calls Try.prog 13 #[.pointer none] w fun e w' => e = .returned (.pointer none) ∧ w' = w := by
  go_enter Try.func13, Try.ntmps13
  go_wp2
  go_ret
  exact ⟨rfl, rfl⟩

set_option maxHeartbeats 400000 in
theorem clone12_any (w : World) (b o : Nat) (dim : ByteArray) (n : Nat) (T A : Nat → Int) (h : TiersIn w b o dim n T A) (hn : n ≤ 65536) :
    Calls Try.prog 12 #[.pointer (some ⟨b, o, none⟩)] w fun e w' => ∃ g : Nat, e = .returned (.pointer (some ⟨g, 0, none⟩)) ∧ Below w.heap.size w w' ∧ TiersIn w' g 0 dim n T A := by
  obtain ⟨a, c, h0, h1, hr⟩ := h
  have hb : b < w.heap.size := World.block_lt_of_cell? _ _ h0
  cases a with
  | none =>
    obtain ⟨rfl, rfl⟩ := hr.1 rfl
    go_enter Try.func12, Try.ntmps12
    go_wp2
    go_ret
    exact ⟨w.heap.size, rfl, (Below.refl _ _).alloc (Nat.le_refl _) _, none, 0, by rw [World.cell?_alloc_at _ _ _ _ rfl]; rfl, by rw [World.cell?_alloc_at _ _ _ _ rfl]; rfl, fun _ => ⟨rfl, rfl⟩, fun h => absurd h (by omega)⟩
  | some ad =>
  obtain ⟨i0, hi, hz0, hz1, hz2⟩ := info_parts Try.info43
  go_enter Try.func12, Try.ntmps12
  go_wp2_with (at_make; refine wpList_make_full _ rfl _ _ 26 rfl w.heap.size 43 i0 _ 2 Try.underlying26 hi hz0 hz1 _ _ _ _ n rfl rfl rfl rfl ?b1 ?b2 ?b3 ?_)
  case b1 => rw [hz2]; omega
  case b2 => unfold maxLen; omega
  case b3 => exact Nat.le_refl _
  intro w1 hown hgrow
  have hfill := Filling.start T A hown (by simp [madeCells])
  have hbel : Below w.heap.size w w1 := (Below.refl _ _).grown hgrow (Nat.le_refl _) (by simp)
  have hsz : w.heap.size < w1.heap.size := (hown.lt _ rfl).2
  have H0 : Hid (w.cell? ⟨b, o, none⟩ = some (.string dim)) := h0
  have H1 : Hid (w.cell? ⟨b, o + 1, none⟩ = some (.slice (some ad) n c)) := h1
  clear hown hgrow h0 h1
  go_wp2
  go_loopw [4] (fun i wr => ∃ k : Nat, k ≤ n ∧ i = .int .i64 k ∧ Below w.heap.size w wr ∧ w.heap.size < wr.heap.size ∧ Filling wr w.heap.size n k T A) (fun i _ => n - (intOf i).toNat)
  case atStart => exact ⟨0, Nat.zero_le _, rfl, hbel, hsz, hfill⟩
  case round =>
    obtain ⟨k, hk, rfl, hbr, hszr, hfr⟩ := hrel
    have h0 : wr.cell? ⟨b, o, none⟩ = some (.string dim) := (hbr.cell (by exact hb)).trans H0.out
    have h1 : wr.cell? ⟨b, o + 1, none⟩ = some (.slice (some ad) n c) := (hbr.cell (by exact hb)).trans H1.out
    by_cases hlt : k < n
    · obtain ⟨rb, ro, had, hc⟩ := hr.2 (by omega)
      obtain rfl := Option.some.inj had
      have hrb : rb < w.heap.size := World.block_lt_of_cell? _ _ (hc k hlt).1
      have r0 : wr.cell? ⟨rb, ro + k * 2, none⟩ = some (.int .i64 (T k)) := (hbr.cell (by exact hrb)).trans (hc k hlt).1
      have r1 : wr.cell? ⟨rb, ro + k * 2 + 1, none⟩ = some (.int .i64 (A k)) := (hbr.cell (by exact hrb)).trans (hc k hlt).2
      obtain ⟨v0, g0⟩ := hfr.1 (k * 2) (by omega)
      obtain ⟨v1, g1⟩ := hfr.1 (k * 2 + 1) (by omega)
      have f0 := hfr.2.1 (k * 2)
      have f1 := hfr.2.1 (k * 2 + 1)
      have HF : Hid (Filling wr w.heap.size n k T A) := hfr
      clear hfr hc hfill had
      go_wp2
      go_roundw
      case rel => exact ⟨k + 1, by omega, by go_num, (hbr.setCell (by simp) _).setCell (by simp) _, by simpa using hszr, HF.out.step hlt⟩
      case measure => simp [intOf]; omega
    · clear hfill
      have : k = n := by omega
      subst this
      go_wp2
      go_ret
      exact ⟨wr.heap.size, rfl, hbr.alloc hbr.size _, hfr.shut hszr dim 28⟩

set_option maxHeartbeats 400000 in
theorem to13_any (w : World) (b o : Nat) (dim : ByteArray) (n : Nat) (T A : Nat → Int) (h : TiersIn w b o dim n T A) (hn : n ≤ 65536) :
    Calls Try.prog 13 #[.pointer (some ⟨b, o, none⟩)] w fun e w' => ∃ g : Nat, e = .returned (.pointer (some ⟨g, 0, none⟩)) ∧ Below w.heap.size w w' ∧ TiersIn w' g 0 dim n T A := by
  obtain ⟨a, c, h0, h1, hr⟩ := h
  have hb : b < w.heap.size := World.block_lt_of_cell? _ _ h0
  cases a with
  | none =>
    obtain ⟨rfl, rfl⟩ := hr.1 rfl
    go_enter Try.func13, Try.ntmps13
    go_wp2
    go_ret
    exact ⟨w.heap.size, rfl, (Below.refl _ _).alloc (Nat.le_refl _) _, none, 0, by rw [World.cell?_alloc_at _ _ _ _ rfl]; rfl, by rw [World.cell?_alloc_at _ _ _ _ rfl]; rfl, fun _ => ⟨rfl, rfl⟩, fun h => absurd h (by omega)⟩
  | some ad =>
  obtain ⟨i0, hi, hz0, hz1, hz2⟩ := info_parts Try.info68
  go_enter Try.func13, Try.ntmps13
  go_wp2_with (at_make; refine wpList_make_full _ rfl _ _ 67 rfl w.heap.size 68 i0 _ 2 Try.underlying67 hi hz0 hz1 _ _ _ _ n rfl rfl rfl rfl ?b1 ?b2 ?b3 ?_)
  case b1 => rw [hz2]; omega
  case b2 => unfold maxLen; omega
  case b3 => exact Nat.le_refl _
  intro w1 hown hgrow
  have hfill := Filling.start T A hown (by simp [madeCells])
  have hbel : Below w.heap.size w w1 := (Below.refl _ _).grown hgrow (Nat.le_refl _) (by simp)
  have hsz : w.heap.size < w1.heap.size := (hown.lt _ rfl).2
  have H0 : Hid (w.cell? ⟨b, o, none⟩ = some (.string dim)) := h0
  have H1 : Hid (w.cell? ⟨b, o + 1, none⟩ = some (.slice (some ad) n c)) := h1
  clear hown hgrow h0 h1
  go_wp2
  go_loopw [4] (fun i wr => ∃ k : Nat, k ≤ n ∧ i = .int .i64 k ∧ Below w.heap.size w wr ∧ w.heap.size < wr.heap.size ∧ Filling wr w.heap.size n k T A) (fun i _ => n - (intOf i).toNat)
  case atStart => exact ⟨0, Nat.zero_le _, rfl, hbel, hsz, hfill⟩
  case round =>
    obtain ⟨k, hk, rfl, hbr, hszr, hfr⟩ := hrel
    have h0 : wr.cell? ⟨b, o, none⟩ = some (.string dim) := (hbr.cell (by exact hb)).trans H0.out
    have h1 : wr.cell? ⟨b, o + 1, none⟩ = some (.slice (some ad) n c) := (hbr.cell (by exact hb)).trans H1.out
    by_cases hlt : k < n
    · obtain ⟨rb, ro, had, hc⟩ := hr.2 (by omega)
      obtain rfl := Option.some.inj had
      have hrb : rb < w.heap.size := World.block_lt_of_cell? _ _ (hc k hlt).1
      have r0 : wr.cell? ⟨rb, ro + k * 2, none⟩ = some (.int .i64 (T k)) := (hbr.cell (by exact hrb)).trans (hc k hlt).1
      have r1 : wr.cell? ⟨rb, ro + k * 2 + 1, none⟩ = some (.int .i64 (A k)) := (hbr.cell (by exact hrb)).trans (hc k hlt).2
      obtain ⟨v0, g0⟩ := hfr.1 (k * 2) (by omega)
      obtain ⟨v1, g1⟩ := hfr.1 (k * 2 + 1) (by omega)
      have f0 := hfr.2.1 (k * 2)
      have f1 := hfr.2.1 (k * 2 + 1)
      have HF : Hid (Filling wr w.heap.size n k T A) := hfr
      clear hfr hc hfill had
      have hlti : (k : Int) < (n : Int) := by omega
      go_wp2
      go_region
      all_goals go_wp2
      all_goals go_roundw
      case rel => exact ⟨k + 1, by omega, by go_num, (((hbr.setCell (by simp) _).setCell (by simp) _)).drew, by simpa using hszr, HF.out.step hlt⟩
      case measure => simp [intOf]; omega
    · clear hfill
      have : k = n := by omega
      subst this
      go_wp2
      go_ret
      exact ⟨wr.heap.size, rfl, hbr.alloc hbr.size _, hfr.shut hszr dim 71⟩

end Go.Proofs.Qxb6603944a
