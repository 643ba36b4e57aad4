/-
  The contracts of the slices of the chain functions.
-/
import Derived.Test.Qxb6603944aTiers
import Derived.Test.Qxb6603944aOpen
namespace Go.Proofs.Qxb6603944a
open Go.RowKit
set_option linter.unusedVariables false

/-- the rows of a slice whose elements are one cell each -/
def CellRow (w : World) (a : Option Addr) (n c : Nat) (V : Nat → Value) : Prop :=
  (a = none → n = 0 ∧ c = 0) ∧ (0 < n → ∃ rb ro, a = some ⟨rb, ro, none⟩ ∧ ∀ i, i < n → w.cell? ⟨rb, ro + i, none⟩ = some (V i))

theorem CellRow.later {w w' : World} {a : Option Addr} {n c : Nat} {V : Nat → Value} (h : CellRow w a n c V) (hb : Below w.heap.size w w') : CellRow w' a n c V := by
  refine ⟨h.1, fun hn => ?_⟩
  obtain ⟨rb, ro, ha, hc⟩ := h.2 hn
  exact ⟨rb, ro, ha, fun i hi => cell_later hb (hc i hi)⟩

/-- strings, integers -/
def StrRow (w : World) (a : Option Addr) (n c : Nat) (S : Nat → ByteArray) : Prop := CellRow w a n c (fun i => .string (S i))
def IntRow (w : World) (a : Option Addr) (n c : Nat) (Z : Nat → Int) : Prop := CellRow w a n c (fun i => .int .i64 (Z i))

/-- a row of one-cell elements that the call itself fills -/
def Fill1 (w : World) (g n k : Nat) (V : Nat → Value) : Prop :=
  (∀ j, j < n → ∃ v, w.cell? ⟨g, j, none⟩ = some v) ∧ (∀ j, w.frozen? ⟨g, j, none⟩ = false) ∧ ∀ i, i < k → w.cell? ⟨g, i, none⟩ = some (V i)

theorem Fill1.start {w : World} {B B' e n : Nat} {xs : List Value} (V : Nat → Value) (h : w.ownsRow B e 1 (.slice (some ⟨B', 0, none⟩) n n) n xs) (hx : xs.length = n) : Fill1 w B' n 0 V := by
  refine ⟨fun j hj => ?_, fun j => h.frozenAt j, fun i hi => absurd hi (by omega)⟩
  rw [h.cellAt j (by omega)]
  exact ⟨xs[j]'(by omega), List.getElem?_eq_getElem _⟩

theorem Fill1.step {w : World} {g n k : Nat} {V : Nat → Value} (h : Fill1 w g n k V) (hk : k < n) : Fill1 (w.setCell ⟨g, k, none⟩ (V k)) g n (k + 1) V := by
  obtain ⟨v0, g0⟩ := h.1 k hk
  have hc : ∀ j, (w.setCell ⟨g, k, none⟩ (V k)).cell? ⟨g, j, none⟩ = if j = k then some (V k) else w.cell? ⟨g, j, none⟩ := by
    intro j
    by_cases e : j = k
    · subst e; rw [World.cell?_setCell_same _ _ _ g0, if_pos rfl]
    · rw [World.cell?_setCell_other _ _ _ _ (by simp), if_neg e]
  refine ⟨fun j hj => ?_, fun j => ?_, fun i hi => ?_⟩
  · rw [hc j]
    split
    · exact ⟨_, rfl⟩
    · exact h.1 j hj
  · simpa using h.2.1 j
  · rw [hc i]
    by_cases e : i = k
    · subst e; simp
    · rw [if_neg e]; exact h.2.2 i (by omega)

theorem Fill1.row {w : World} {g n c : Nat} {V : Nat → Value} (h : Fill1 w g n n V) : CellRow w (some ⟨g, 0, none⟩) n c V :=
  ⟨by simp, fun hn => ⟨g, 0, rfl, fun i hi => by simpa using h.2.2 i hi⟩⟩

theorem Try.info2 : (Try.prog.info? 2).map (fun i => (i.zero, i.size, i.bytes)) = some (some (.int .i64 0), 1, 8) := by kernel_rfl
theorem Try.info3 : (Try.prog.info? 3).map (fun i => (i.zero, i.size, i.bytes)) = some (some (.int .i64 0), 1, 8) := by kernel_rfl
theorem Try.info9 : (Try.prog.info? 9).map (fun i => (i.zero, i.size, i.bytes)) = some (some (.string ⟨#[]⟩), 1, 16) := by kernel_rfl

set_option maxHeartbeats 400000 in
theorem clone27_any (w : World) (a : Option Addr) (n c : Nat) (Z : Nat → Int) (hr : IntRow w a n c Z) (hn : n ≤ 65536) :
    Calls Try.prog 27 #[.slice a n c] w fun e w' => ∃ a' c', e = .returned (.slice a' n c') ∧ Below w.heap.size w w' ∧ IntRow w' a' n c' Z := by
  have hnn := fun (wx : World) (a : Option Addr) (n c : Nat) => Lib.run_eql_slice_nil (P := Try.prog) wx 56 2 a n c 0 0 Try.underlying56
  cases a with
  | none =>
    obtain ⟨rfl, rfl⟩ := hr.1 rfl
    go_enter Try.func27, Try.ntmps27
    go_wp2
    go_ret
    exact ⟨none, 0, rfl, Below.refl _ _, fun _ => ⟨rfl, rfl⟩, fun h => absurd h (by omega)⟩
  | some ad =>
  obtain ⟨i0, hi, hz0, hz1, hz2⟩ := info_parts Try.info2
  go_enter Try.func27, Try.ntmps27
  go_wp2_with (at_make; refine wpList_make_full _ rfl _ _ 56 rfl w.heap.size 2 i0 _ 1 Try.underlying56 hi hz0 hz1 _ _ _ _ n rfl rfl rfl rfl ?b1 ?b2 ?b3 ?_)
  case b1 => rw [hz2]; omega
  case b2 => unfold maxLen; omega
  case b3 => exact Nat.le_refl _
  intro w1 hown hgrow
  have hfill := Fill1.start (fun i => .int .i64 (Z i)) hown (by simp [madeCells])
  have hbel : Below w.heap.size w w1 := (Below.refl _ _).grown hgrow (Nat.le_refl _) (by simp)
  clear hown hgrow
  go_wp2
  go_loopw [4] (fun i wr => ∃ k : Nat, k ≤ n ∧ i = .int .i64 k ∧ Below w.heap.size w wr ∧ Fill1 wr w.heap.size n k (fun i => .int .i64 (Z i))) (fun i _ => n - (intOf i).toNat)
  case atStart => exact ⟨0, Nat.zero_le _, rfl, hbel, hfill⟩
  case round =>
    obtain ⟨k, hk, rfl, hbr, hfr⟩ := hrel
    by_cases hlt : k < n
    · obtain ⟨rb, ro, had, hc⟩ := hr.2 (by omega)
      obtain rfl := Option.some.inj had
      have hrb : rb < w.heap.size := World.block_lt_of_cell? _ _ (hc k hlt)
      have r0 : wr.cell? ⟨rb, ro + k, none⟩ = some (.int .i64 (Z k)) := (hbr.cell (by exact hrb)).trans (hc k hlt)
      obtain ⟨v0, g0⟩ := hfr.1 k (by omega)
      have f0 := hfr.2.1 k
      have HF : Hid (Fill1 wr w.heap.size n k (fun i => .int .i64 (Z i))) := hfr
      clear hfr hc hfill had
      go_wp2
      go_roundw
      case rel => exact ⟨k + 1, by omega, by go_num, hbr.setCell (by simp) _, HF.out.step hlt⟩
      case measure => simp [intOf]; omega
    · clear hfill
      have : k = n := by omega
      subst this
      go_wp2
      go_ret
      exact ⟨_, _, rfl, hbr, hfr.row⟩

set_option maxHeartbeats 400000 in
theorem clone26_any (w : World) (a : Option Addr) (n c : Nat) (S : Nat → ByteArray) (hr : StrRow w a n c S) (hn : n ≤ 65536) :
    Calls Try.prog 26 #[.slice a n c] w fun e w' => ∃ a' c', e = .returned (.slice a' n c') ∧ Below w.heap.size w w' ∧ StrRow w' a' n c' S := by
  have hnn := fun (wx : World) (a : Option Addr) (n c : Nat) => Lib.run_eql_slice_nil (P := Try.prog) wx 55 9 a n c 0 0 Try.underlying55
  cases a with
  | none =>
    obtain ⟨rfl, rfl⟩ := hr.1 rfl
    go_enter Try.func26, Try.ntmps26
    go_wp2
    go_ret
    exact ⟨none, 0, rfl, Below.refl _ _, fun _ => ⟨rfl, rfl⟩, fun h => absurd h (by omega)⟩
  | some ad =>
  obtain ⟨i0, hi, hz0, hz1, hz2⟩ := info_parts Try.info9
  go_enter Try.func26, Try.ntmps26
  go_wp2_with (at_make; refine wpList_make_full _ rfl _ _ 55 rfl w.heap.size 9 i0 _ 1 Try.underlying55 hi hz0 hz1 _ _ _ _ n rfl rfl rfl rfl ?b1 ?b2 ?b3 ?_)
  case b1 => rw [hz2]; omega
  case b2 => unfold maxLen; omega
  case b3 => exact Nat.le_refl _
  intro w1 hown hgrow
  have hfill := Fill1.start (fun i => .string (S i)) hown (by simp [madeCells])
  have hbel : Below w.heap.size w w1 := (Below.refl _ _).grown hgrow (Nat.le_refl _) (by simp)
  clear hown hgrow
  go_wp2
  go_loopw [4] (fun i wr => ∃ k : Nat, k ≤ n ∧ i = .int .i64 k ∧ Below w.heap.size w wr ∧ Fill1 wr w.heap.size n k (fun i => .string (S i))) (fun i _ => n - (intOf i).toNat)
  case atStart => exact ⟨0, Nat.zero_le _, rfl, hbel, hfill⟩
  case round =>
    obtain ⟨k, hk, rfl, hbr, hfr⟩ := hrel
    by_cases hlt : k < n
    · obtain ⟨rb, ro, had, hc⟩ := hr.2 (by omega)
      obtain rfl := Option.some.inj had
      have hrb : rb < w.heap.size := World.block_lt_of_cell? _ _ (hc k hlt)
      have r0 : wr.cell? ⟨rb, ro + k, none⟩ = some (.string (S k)) := (hbr.cell (by exact hrb)).trans (hc k hlt)
      obtain ⟨v0, g0⟩ := hfr.1 k (by omega)
      have f0 := hfr.2.1 k
      have HF : Hid (Fill1 wr w.heap.size n k (fun i => .string (S i))) := hfr
      clear hfr hc hfill had
      go_wp2
      go_roundw
      case rel => exact ⟨k + 1, by omega, by go_num, hbr.setCell (by simp) _, HF.out.step hlt⟩
      case measure => simp [intOf]; omega
    · clear hfill
      have : k = n := by omega
      subst this
      go_wp2
      go_ret
      exact ⟨_, _, rfl, hbr, hfr.row⟩

set_option maxHeartbeats 1000000 in
theorem fits25_any (w : World) (a b : Option Addr) (n c m d : Nat) (S : Nat → ByteArray) (s2 s3 s4 : ByteArray) (hr : StrRow w a n c S) :
    Calls Try.prog 25 #[.slice a n c, .slice b m d, .string s2, .string s3, .string s4] w fun e w' => RetB (fun r => r = true → n ≤ 65536 ∧ m ≤ 65536) e ∧ w' = w := by
  by_cases c1 : (65536 : Int) < n
  · have d1 : decide ((65536 : Int) < n) = true := by simpa using c1
    go_enter Try.func25, Try.ntmps25
    go_wp2
    go_ret
    exact ⟨⟨_, rfl, by simp⟩, rfl⟩
  have d1 : decide ((65536 : Int) < n) = false := by simpa using c1
  by_cases c2 : (65536 : Int) < m
  · have d2 : decide ((65536 : Int) < m) = true := by simpa using c2
    go_enter Try.func25, Try.ntmps25
    go_wp2
    go_ret
    exact ⟨⟨_, rfl, by simp⟩, rfl⟩
  have d2 : decide ((65536 : Int) < m) = false := by simpa using c2
  by_cases c3 : (1048576 : Int) < s2.size
  · have d3 : decide ((1048576 : Int) < s2.size) = true := by simpa using c3
    go_enter Try.func25, Try.ntmps25
    go_wp2
    go_ret
    exact ⟨⟨_, rfl, by simp⟩, rfl⟩
  have d3 : decide ((1048576 : Int) < s2.size) = false := by simpa using c3
  by_cases c4 : (1048576 : Int) < s3.size
  · have d4 : decide ((1048576 : Int) < s3.size) = true := by simpa using c4
    go_enter Try.func25, Try.ntmps25
    go_wp2
    go_ret
    exact ⟨⟨_, rfl, by simp⟩, rfl⟩
  have d4 : decide ((1048576 : Int) < s3.size) = false := by simpa using c4
  by_cases c5 : (1048576 : Int) < s4.size
  · have d5 : decide ((1048576 : Int) < s4.size) = true := by simpa using c5
    go_enter Try.func25, Try.ntmps25
    go_wp2
    go_ret
    exact ⟨⟨_, rfl, by simp⟩, rfl⟩
  have d5 : decide ((1048576 : Int) < s4.size) = false := by simpa using c5
  go_enter Try.func25, Try.ntmps25
  go_wp2
  · go_ret
    exact ⟨⟨_, rfl, by simp⟩, rfl⟩
  · go_loop [11, 12] (fun t i => ∃ (z : Int) (k : Nat), k ≤ n ∧ t = .int .i64 z ∧ i = .int .i64 k) (fun _ i => n - (intOf i).toNat)
    case atStart => exact ⟨_, 0, Nat.zero_le _, rfl, rfl⟩
    case round =>
      obtain ⟨z, k, hk, rfl, rfl⟩ := hrel
      by_cases hlt : k < n
      · obtain ⟨rb, ro, had, hc⟩ := hr.2 (by omega)
        subst had
        have r0 := hc k hlt
        clear hc
        go_wp2
        · go_ret
          exact ⟨⟨_, rfl, by simp⟩, rfl⟩
        · go_round
          case rel => exact ⟨_, k + 1, by omega, rfl, by go_num⟩
          case measure => simp [intOf]; omega
      · go_wp2
        go_ret
        exact ⟨⟨_, rfl, by omega⟩, rfl⟩

set_option maxHeartbeats 1000000 in
theorem bytes24_any (w : World) (a b : Option Addr) (n c m d : Nat) (S : Nat → ByteArray) (s2 s3 s4 : ByteArray) (hr : StrRow w a n c S) (hm : m ≤ maxLen) (hs2 : s2.size ≤ maxLen) (hs3 : s3.size ≤ maxLen) (hs4 : s4.size ≤ maxLen) :
    Calls Try.prog 24 #[.slice a n c, .slice b m d, .string s2, .string s3, .string s4] w fun e w' => RetB (fun _ => True) e ∧ w' = w := by
  unfold maxLen at hm hs2 hs3 hs4
  go_enter Try.func24, Try.ntmps24
  go_wp2
  · go_ret
    exact ⟨⟨_, rfl, trivial⟩, rfl⟩
  · have hn1 : (n : Int) ≤ 1048576 := by assumption
    go_loop [11, 12] (fun t i => ∃ (z : Int) (k : Nat), k ≤ n ∧ 0 ≤ z ∧ z ≤ 1048576 ∧ t = .int .i64 z ∧ i = .int .i64 k) (fun _ i => n - (intOf i).toNat)
    case atStart => exact ⟨n, 0, Nat.zero_le _, by omega, by omega, rfl, rfl⟩
    case round =>
      obtain ⟨z, k, hk, hz0, hz1, rfl, rfl⟩ := hrel
      by_cases hlt : k < n
      · obtain ⟨rb, ro, had, hc⟩ := hr.2 (by omega)
        subst had
        have r0 := hc k hlt
        clear hc
        by_cases c1 : (1048576 : Int) < (S k).size
        · go_wp2
          go_ret
          exact ⟨⟨_, rfl, trivial⟩, rfl⟩
        · by_cases c2 : (1048576 : Int) < z + (S k).size
          · go_wp2
            go_ret
            exact ⟨⟨_, rfl, trivial⟩, rfl⟩
          · go_wp2
            go_round
            case rel => exact ⟨_, k + 1, by omega, by omega, by omega, rfl, by go_num⟩
            case measure => simp [intOf]; omega
      · go_wp2
        all_goals (go_ret; exact ⟨⟨_, rfl, trivial⟩, rfl⟩)

set_option maxHeartbeats 1000000 in
theorem bytes29_any (w : World) (a b : Option Addr) (n c m d : Nat) (S : Nat → ByteArray) (s2 s3 s4 : ByteArray) (hr : StrRow w a n c S) (hm : m ≤ maxLen) (hs2 : s2.size ≤ maxLen) (hs3 : s3.size ≤ maxLen) (hs4 : s4.size ≤ maxLen) :
    Calls Try.prog 29 #[.slice a n c, .slice b m d, .string s2, .string s3, .string s4] w fun e w' => RetB (fun _ => True) e ∧ w' = w := by
  unfold maxLen at hm hs2 hs3 hs4
  go_enter Try.func29, Try.ntmps29
  go_wp2
  · go_ret
    exact ⟨⟨_, rfl, trivial⟩, rfl⟩
  · have hn1 : (n : Int) ≤ 1048576 := by assumption
    go_loop [11, 12] (fun t i => ∃ (z : Int) (k : Nat), k ≤ n ∧ 0 ≤ z ∧ z ≤ 1048576 ∧ t = .int .i64 z ∧ i = .int .i64 k) (fun _ i => n - (intOf i).toNat)
    case atStart => exact ⟨n, 0, Nat.zero_le _, by omega, by omega, rfl, rfl⟩
    case round =>
      obtain ⟨z, k, hk, hz0, hz1, rfl, rfl⟩ := hrel
      by_cases hlt : k < n
      · obtain ⟨rb, ro, had, hc⟩ := hr.2 (by omega)
        subst had
        have r0 := hc k hlt
        clear hc
        by_cases c1 : (1048576 : Int) < (S k).size
        · go_wp2
          go_ret
          exact ⟨⟨_, rfl, trivial⟩, rfl⟩
        · by_cases c2 : (1048576 : Int) < z + (S k).size
          · go_wp2
            go_ret
            exact ⟨⟨_, rfl, trivial⟩, rfl⟩
          · go_wp2
            go_round
            case rel => exact ⟨_, k + 1, by omega, by omega, by omega, rfl, by go_num⟩
            case measure => simp [intOf]; omega
      · go_wp2
        all_goals (go_ret; exact ⟨⟨_, rfl, trivial⟩, rfl⟩)

set_option maxHeartbeats 400000 in
theorem zz28_of {w : World} {a b : Option Addr} {n c m d : Nat} {s2 s3 s4 : ByteArray} {R : Ending → World → Prop} (h : Calls Try.prog 30 #[.slice a n c, .slice b m d, .string s2, .string s3, .string s4] w fun e w' => ∃ v : Option Addr × Nat × Nat, e = .returned (.slice v.1 v.2.1 v.2.2) ∧ R e w') :
    Calls Try.prog 28 #[.slice a n c, .slice b m d, .string s2, .string s3, .string s4] w fun e w' => ∃ v : Option Addr × Nat × Nat, e = .returned (.slice v.1 v.2.1 v.2.2) ∧ R e w' := by
  go_enter Try.func28, Try.ntmps28
  go_wp2_with fail
  refine h.mono ?_
  rintro e w' ⟨v, rfl, hR⟩
  go_wp2
  go_ret
  exact ⟨v, rfl, hR⟩
end Go.Proofs.Qxb6603944a
