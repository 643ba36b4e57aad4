/-
  The simple contracts: memory predicates, sizes, ranges, clones.
-/
import Derived.Test.Qxb6600485aRows
import Derived.Test.Qxb6600485aGraph
import Derived.WalkKit
import Derived.WalkSpells
import Derived.WalkLawsBesides
import Derived.Deep.QuietTactic
import Derived.BigQuiet
import Derived.BigRegion
namespace Go.Proofs.Qxb6600485a
open Go.RowKit
set_option linter.unusedVariables false

/-- the call returned some Bool r with p r -/
def RetB (p : Bool → Prop) (e : Ending) : Prop := ∃ r, e = .returned (.bool r) ∧ p r

/-- the rows of a slice whose elements are one cell each -/
def CellRow (w : World) (a : Option Addr) (n c : Nat) (V : Nat → Value) : Prop :=
  (a = none → n = 0 ∧ c = 0) ∧ (0 < n → ∃ rb ro, a = some ⟨rb, ro, none⟩ ∧ ∀ i, i < n → w.cell? ⟨rb, ro + i, none⟩ = some (V i))
theorem CellRow.later {w w' : World} {a : Option Addr} {n c : Nat} {V : Nat → Value} (h : CellRow w a n c V) (hb : Below w.heap.size w w') : CellRow w' a n c V := by
  refine ⟨h.1, fun hn => ?_⟩
  obtain ⟨rb, ro, ha, hc⟩ := h.2 hn
  exact ⟨rb, ro, ha, fun i hi => cell_later hb (hc i hi)⟩
theorem CellRow.carry {w w' : World} {a : Option Addr} {n c B : Nat} {V : Nat → Value} (h : CellRow w a n c V) (hb : Below B w w') (hB : w.heap.size ≤ B) : CellRow w' a n c V := by
  refine ⟨h.1, fun hn => ?_⟩
  obtain ⟨rb, ro, ha, hc⟩ := h.2 hn
  exact ⟨rb, ro, ha, fun i hi => (hb.cell (Nat.lt_of_lt_of_le (World.block_lt_of_cell? _ _ (hc i hi)) hB)).trans (hc i hi)⟩
theorem CellRow.setOther {w : World} {a : Option Addr} {n c : Nat} {V : Nat → Value} (h : CellRow w a n c V) (p : Addr) (x : Value) (hp : ∀ y, a = some y → y.block ≠ p.block) : CellRow (w.setCell p x) a n c V := by
  refine ⟨h.1, fun hn => ?_⟩
  obtain ⟨rb, ro, ha, hc⟩ := h.2 hn
  refine ⟨rb, ro, ha, fun i hi => ?_⟩
  rw [World.cell?_setCell_other _ _ _ _ (fun e => hp _ ha (by rw [e]))]
  exact hc i hi
def IntRow (w : World) (a : Option Addr) (n c : Nat) (Z : Nat → Int) : Prop := CellRow w a n c (fun i => .int .i64 (Z i))

/-- a slice of slices of integers -/
def GRow (w : World) (a : Option Addr) (n c : Nat) (L : Nat → Nat) (G : Nat → Nat → Int) : Prop :=
  (a = none → n = 0 ∧ c = 0) ∧ (0 < n → ∃ rb ro, a = some ⟨rb, ro, none⟩ ∧ ∀ i, i < n → ∃ x d, w.cell? ⟨rb, ro + i, none⟩ = some (.slice x (L i) d) ∧ IntRow w x (L i) d (G i))
theorem GRow.later {w w' : World} {a : Option Addr} {n c : Nat} {L : Nat → Nat} {G : Nat → Nat → Int} (h : GRow w a n c L G) (hb : Below w.heap.size w w') : GRow w' a n c L G := by
  refine ⟨h.1, fun hn => ?_⟩
  obtain ⟨rb, ro, ha, hc⟩ := h.2 hn
  refine ⟨rb, ro, ha, fun i hi => ?_⟩
  obtain ⟨x, d, h1, h2⟩ := hc i hi
  exact ⟨x, d, cell_later hb h1, CellRow.later h2 hb⟩

/-- an array of the call's own: n cells, none frozen -/
def ARow (w : World) (g n : Nat) (V : Nat → Value) : Prop := ∀ j, j < n → w.cell? ⟨g, j, none⟩ = some (V j) ∧ w.frozen? ⟨g, j, none⟩ = false
theorem ARow.set {w : World} {g n : Nat} {V : Nat → Value} (h : ARow w g n V) (k : Nat) (x : Value) (hk : k < n) : ARow (w.setCell ⟨g, k, none⟩ x) g n (upd V k x) := by
  intro j hj
  by_cases e : j = k
  · subst e
    rw [World.cell?_setCell_same _ _ _ (h j hj).1, upd_same]
    exact ⟨rfl, by simpa using (h j hj).2⟩
  · rw [World.cell?_setCell_other _ _ _ _ (by simp), upd_other _ _ _ _ e]
    exact ⟨(h j hj).1, by simpa using (h j hj).2⟩
theorem ARow.congr {w : World} {g n : Nat} {V V' : Nat → Value} (h : ARow w g n V) (he : ∀ j, j < n → V j = V' j) : ARow w g n V' := fun j hj => by rw [← he j hj]; exact h j hj
theorem ARow.lt {w : World} {g n : Nat} {V : Nat → Value} (h : ARow w g n V) (hn : 0 < n) : g < w.heap.size := World.block_lt_of_cell? _ _ (h 0 hn).1
/-- .. behind whatever leaves its block as it was -/
theorem ARow.kept {w w' : World} {g n : Nat} {V : Nat → Value} (h : ARow w g n V) (hk : ∀ j, w'.cell? ⟨g, j, none⟩ = w.cell? ⟨g, j, none⟩ ∧ w'.frozen? ⟨g, j, none⟩ = w.frozen? ⟨g, j, none⟩) : ARow w' g n V := fun j hj => by
  rw [(hk j).1, (hk j).2]; exact h j hj
theorem ARow.below {w w' : World} {g n : Nat} {V : Nat → Value} (h : ARow w g n V) {B : Nat} (hb : Below B w w') (hg : g < B) : ARow w' g n V :=
  h.kept fun j => ⟨hb.cell (by exact hg), hb.frozen (by exact hg)⟩
theorem ARow.made {w : World} {B B' e n : Nat} {xs : List Value} (z : Value) (h : w.ownsRow B e 1 (.slice (some ⟨B', 0, none⟩) n n) n xs) (hx : xs = List.replicate n z) : ARow w B' n (fun _ => z) := by
  intro j hj
  refine ⟨?_, h.frozenAt j⟩
  rw [h.cellAt j (by omega), hx]
  simp [hj]
theorem ARow.row {w : World} {g n c : Nat} {V : Nat → Value} (h : ARow w g n V) : CellRow w (some ⟨g, 0, none⟩) n c V :=
  ⟨by simp, fun hn => ⟨g, 0, rfl, fun i hi => by simpa using (h i hi).1⟩⟩
theorem ARow.setOther {w : World} {g n : Nat} {V : Nat → Value} (h : ARow w g n V) (p : Addr) (x : Value) (hp : p.block ≠ g) : ARow (w.setCell p x) g n V :=
  h.kept fun j => ⟨World.cell?_setCell_other _ _ _ _ (fun e => hp (by rw [e])), by simp⟩
theorem ARow.alloc {w : World} {g n : Nat} {V : Nat → Value} (h : ARow w g n V) (o : Obj) (hg : g < w.heap.size) : ARow (w.alloc o) g n V :=
  h.below ((Below.refl w.heap.size w).alloc (Nat.le_refl _) o) hg

theorem Try.info3 : (Try.prog.info? 3).map (fun i => (i.zero, i.size, i.bytes)) = some (some (.int .i64 0), 1, 8) := by kernel_rfl
theorem Try.info22 : (Try.prog.info? 22).map (fun i => (i.zero, i.size, i.bytes)) = some (some (.slice none 0 0), 1, 24) := by kernel_rfl

set_option maxHeartbeats 1000000 in
theorem bytes17 (w : World) (a : Option Addr) (n c : Nat) (L : Nat → Nat) (G : Nat → Nat → Int) (hr : GRow w a n c L G) :
    Calls Try.prog 17 #[.slice a n c] w fun e w' => RetB (fun _ => True) e ∧ w' = w := by
  go_enter Try.func17, Try.ntmps17
  go_wp2
  · go_ret
    exact ⟨⟨_, rfl, trivial⟩, rfl⟩
  · have hn1 : (n : Int) ≤ 1048576 := by assumption
    go_loop [3, 4] (fun t i => ∃ (z : Int) (k : Nat), k ≤ n ∧ 0 ≤ z ∧ z ≤ 1048576 ∧ t = .int .i64 z ∧ i = .int .i64 k) (fun _ i => n - (intOf i).toNat)
    case atStart => exact ⟨n, 0, Nat.zero_le _, by omega, by omega, rfl, rfl⟩
    case round =>
      obtain ⟨z, k, hk, hz0, hz1, rfl, rfl⟩ := hrel
      by_cases hlt : k < n
      · obtain ⟨rb, ro, had, hc⟩ := hr.2 (by omega)
        subst had
        obtain ⟨x, d, r0, _⟩ := hc k hlt
        clear hc
        by_cases c1 : (1048576 : Int) < (L k)
        · go_wp2
          go_ret
          exact ⟨⟨_, rfl, trivial⟩, rfl⟩
        · by_cases c2 : (1048576 : Int) < z + (L k)
          · go_wp2
            go_ret
            exact ⟨⟨_, rfl, trivial⟩, rfl⟩
          · go_wp2
            go_round
            case rel => exact ⟨_, k + 1, by omega, by omega, by omega, rfl, by go_num⟩
            case measure => simp [intOf]; omega
      · go_wp2
        go_ret
        exact ⟨⟨_, rfl, trivial⟩, rfl⟩

set_option maxHeartbeats 1000000 in
theorem fits9 (w : World) (a : Option Addr) (n c : Nat) (L : Nat → Nat) (G : Nat → Nat → Int) (hr : GRow w a n c L G) :
    Calls Try.prog 9 #[.slice none 0 0, .slice a n c] w fun e w' => RetB (fun r => r = true → n ≤ 43690 ∧ ∀ i, i < n → L i ≤ 131072) e ∧ w' = w := by
  by_cases c1 : (43690 : Int) < n
  · go_enter Try.func9, Try.ntmps9
    go_wp2
    go_ret
    exact ⟨⟨_, rfl, by simp⟩, rfl⟩
  · go_enter Try.func9, Try.ntmps9
    go_wp2
    go_loop [5, 6] (fun t i => ∃ (z : Int) (k : Nat), k ≤ n ∧ 0 ≤ z ∧ z ≤ 131072 ∧ t = .int .i64 z ∧ i = .int .i64 k ∧ Hid (∀ i, i < k → L i ≤ 131072)) (fun _ i => n - (intOf i).toNat)
    case atStart => exact ⟨_, 0, Nat.zero_le _, by omega, by omega, rfl, rfl, fun i hi => absurd hi (by omega)⟩
    case round =>
      obtain ⟨z, k, hk, hz0, hz1, rfl, rfl, hall⟩ := hrel
      by_cases hlt : k < n
      · obtain ⟨rb, ro, had, hc⟩ := hr.2 (by omega)
        subst had
        obtain ⟨x, d, r0, _⟩ := hc k hlt
        clear hc
        by_cases c2 : (131072 : Int) - z < (L k)
        · go_wp2
          go_ret
          exact ⟨⟨_, rfl, by simp⟩, rfl⟩
        · have hall2 : Hid (∀ i, i < k + 1 → L i ≤ 131072) := by
            intro i hi
            by_cases e : i = k
            · subst e; omega
            · exact hall.out i (by omega)
          go_wp2
          go_round
          case rel => exact ⟨_, k + 1, by omega, by omega, by omega, rfl, by go_num, hall2⟩
          case measure => simp [intOf]; omega
      · go_wp2
        go_ret
        exact ⟨⟨_, rfl, fun _ => ⟨by omega, fun i hi => hall.out i (by omega)⟩⟩, rfl⟩

set_option maxHeartbeats 1000000 in
theorem range10 (w : World) (a : Option Addr) (n c : Nat) (L : Nat → Nat) (G : Nat → Nat → Int) (hr : GRow w a n c L G) (hn : n ≤ 43690) (hL : ∀ i, i < n → L i ≤ 131072) :
    Calls Try.prog 10 #[.slice a n c, .int .i64 n] w fun e w' => RetB (fun r => r = true → ∀ i, i < n → ∀ j, j < L i → 0 ≤ G i j ∧ G i j < n) e ∧ w' = w := by
  have HL : Hid (∀ i, i < n → L i ≤ 131072) := hL
  clear hL
  go_enter Try.func10, Try.ntmps10
  go_wp2
  go_loop [5, 6] (fun i _ => ∃ (k : Nat), k ≤ n ∧ i = .int .i64 k ∧ Hid (∀ i, i < k → ∀ j, j < L i → 0 ≤ G i j ∧ G i j < n)) (fun i _ => n - (intOf i).toNat)
  case atStart => exact ⟨0, Nat.zero_le _, rfl, fun i hi => absurd hi (by omega)⟩
  case round =>
    obtain ⟨k, hk, rfl, hall⟩ := hrel
    by_cases hlt : k < n
    · obtain ⟨rb, ro, had, hc⟩ := hr.2 (by omega)
      subst had
      obtain ⟨x, d, r0, hx⟩ := hc k hlt
      have hLk := HL.out k hlt
      clear hc
      go_wp2
      go_loop [6] (fun i => ∃ (m : Nat), m ≤ L k ∧ i = .int .i64 m ∧ Hid (∀ j, j < m → 0 ≤ G k j ∧ G k j < n)) (fun i => L k - (intOf i).toNat)
      case atStart => exact ⟨0, Nat.zero_le _, rfl, fun i hi => absurd hi (by omega)⟩
      case round =>
        obtain ⟨m, hm, rfl, hallm⟩ := hrel
        by_cases hmt : m < L k
        · obtain ⟨xb, xo, hxa, hxc⟩ := hx.2 (by omega)
          subst hxa
          have r1 := hxc m hmt
          clear hxc
          by_cases g0 : G k m < 0
          · have d0 : decide (G k m < 0) = true := by simpa using g0
            go_wp2
            go_ret
            exact ⟨⟨_, rfl, by simp⟩, rfl⟩
          · have d0 : decide (G k m < 0) = false := by simpa using g0
            by_cases g1 : (n : Int) ≤ G k m
            · go_wp2
              go_ret
              exact ⟨⟨_, rfl, by simp⟩, rfl⟩
            · have hallm2 : Hid (∀ j, j < m + 1 → 0 ≤ G k j ∧ G k j < n) := by
                intro j hj
                by_cases e : j = m
                · subst e; exact ⟨by omega, by omega⟩
                · exact hallm.out j (by omega)
              go_wp2
              go_round
              case rel => exact ⟨m + 1, by omega, by go_num, hallm2⟩
              case measure => simp [intOf]; omega
        · have hall2 : Hid (∀ i, i < k + 1 → ∀ j, j < L i → 0 ≤ G i j ∧ G i j < n) := by
            intro i hi j hj
            by_cases e : i = k
            · subst e; exact hallm.out j (by omega)
            · exact hall.out i (by omega) j hj
          go_wp2
          go_round
          case rel => exact ⟨k + 1, by omega, by go_num, hall2⟩
          case measure => simp [intOf]; omega
    · go_wp2
      go_ret
      exact ⟨⟨_, rfl, fun _ i hi => hall.out i (by omega)⟩, rfl⟩

set_option maxHeartbeats 400000 in
theorem clone12 (w : World) (a : Option Addr) (n c : Nat) (Z : Nat → Int) (hr : IntRow w a n c Z) (hn : n ≤ 131072) :
    Calls Try.prog 12 #[.slice a n c] w fun e w' => ∃ a' c', e = .returned (.slice a' n c') ∧ Below w.heap.size w w' ∧ IntRow w' a' n c' Z ∧ ∀ y, a' = some y → w.heap.size ≤ y.block := by
  have hnn := fun (wx : World) (a : Option Addr) (n c : Nat) => Lib.run_eql_slice_nil (P := Try.prog) wx 22 3 a n c 0 0 Try.underlying22
  cases a with
  | none =>
    obtain ⟨rfl, rfl⟩ := hr.1 rfl
    go_enter Try.func12, Try.ntmps12
    go_wp2
    go_ret
    exact ⟨none, 0, rfl, Below.refl _ _, ⟨fun _ => ⟨rfl, rfl⟩, fun h => absurd h (by omega)⟩, by simp⟩
  | some ad =>
  obtain ⟨i0, hi, hz0, hz1, hz2⟩ := info_parts Try.info3
  go_enter Try.func12, Try.ntmps12
  go_wp2_with (at_make; refine wpList_make_full _ rfl _ _ 22 rfl w.heap.size 3 i0 _ 1 Try.underlying22 hi hz0 hz1 _ _ _ _ n rfl rfl rfl rfl ?b1 ?b2 ?b3 ?_)
  case b1 => rw [hz2]; omega
  case b2 => unfold maxLen; omega
  case b3 => exact Nat.le_refl _
  intro w1 hown hgrow
  have hfill := ARow.made (.int .i64 0) hown (toList_madeCells_one _ n)
  have hbel : Below w.heap.size w w1 := (Below.refl _ _).grown hgrow (Nat.le_refl _) (by simp)
  clear hown hgrow
  go_wp2
  go_loopw [4] (fun i wr => ∃ k : Nat, k ≤ n ∧ i = .int .i64 k ∧ Below w.heap.size w wr ∧ ∃ V, ARow wr w.heap.size n V ∧ Hid (∀ j, j < k → V j = .int .i64 (Z j))) (fun i _ => n - (intOf i).toNat)
  case atStart => exact ⟨0, Nat.zero_le _, rfl, hbel, _, hfill, fun j hj => absurd hj (by omega)⟩
  case round =>
    obtain ⟨k, hk, rfl, hbr, V, hfr, hV⟩ := hrel
    by_cases hlt : k < n
    · obtain ⟨rb, ro, had, hc⟩ := hr.2 (by omega)
      obtain rfl := Option.some.inj had
      have hrb : rb < w.heap.size := World.block_lt_of_cell? _ _ (hc k hlt)
      have r0 : wr.cell? ⟨rb, ro + k, none⟩ = some (.int .i64 (Z k)) := (hbr.cell (by exact hrb)).trans (hc k hlt)
      obtain ⟨g0, f0⟩ := hfr k hlt
      generalize V k = v0 at g0
      have hV2 : Hid (∀ j, j < k + 1 → upd V k (.int .i64 (Z k)) j = .int .i64 (Z j)) := by
        intro j hj
        by_cases e : j = k
        · subst e; rw [upd_same]
        · rw [upd_other _ _ _ _ e]; exact hV.out j (by omega)
      have HF : Hid (ARow wr w.heap.size n V) := hfr
      clear hfr hc hfill had
      go_wp2
      go_roundw
      case rel => exact ⟨k + 1, by omega, by go_num, hbr.setCell (by simp) _, _, HF.out.set k _ hlt, hV2⟩
      case measure => simp [intOf]; omega
    · clear hfill
      have : k = n := by omega
      subst this
      go_wp2
      go_ret
      exact ⟨_, _, rfl, hbr, (hfr.congr (fun j hj => hV.out j hj)).row, by rintro y h; obtain rfl := Option.some.inj h; exact Nat.le_refl _⟩

set_option maxHeartbeats 400000 in
theorem ident18 (w : World) (n : Nat) (hn : n ≤ 43690) :
    Calls Try.prog 18 #[.int .i64 n] w fun e w' => e = .returned (.slice (some ⟨w.heap.size, 0, none⟩) n n) ∧ Below w.heap.size w w' ∧ ARow w' w.heap.size n (fun i => .int .i64 (i : Nat)) := by
  obtain ⟨i0, hi, hz0, hz1, hz2⟩ := info_parts Try.info3
  go_enter Try.func18, Try.ntmps18
  go_wp2_with (at_make; refine wpList_make_full _ rfl _ _ 22 rfl w.heap.size 3 i0 _ 1 Try.underlying22 hi hz0 hz1 _ _ _ _ n rfl rfl rfl rfl ?b1 ?b2 ?b3 ?_)
  case b1 => rw [hz2]; omega
  case b2 => unfold maxLen; omega
  case b3 => exact Nat.le_refl _
  intro w1 hown hgrow
  have hfill := ARow.made (.int .i64 0) hown (toList_madeCells_one _ n)
  have hbel : Below w.heap.size w w1 := (Below.refl _ _).grown hgrow (Nat.le_refl _) (by simp)
  clear hown hgrow
  go_wp2
  go_loopw [4] (fun i wr => ∃ k : Nat, k ≤ n ∧ i = .int .i64 k ∧ Below w.heap.size w wr ∧ ∃ V, ARow wr w.heap.size n V ∧ Hid (∀ j, j < k → V j = .int .i64 (j : Nat))) (fun i _ => n - (intOf i).toNat)
  case atStart => exact ⟨0, Nat.zero_le _, rfl, hbel, _, hfill, fun j hj => absurd hj (by omega)⟩
  case round =>
    obtain ⟨k, hk, rfl, hbr, V, hfr, hV⟩ := hrel
    by_cases hlt : k < n
    · obtain ⟨g0, f0⟩ := hfr k hlt
      generalize V k = v0 at g0
      have hV2 : Hid (∀ j, j < k + 1 → upd V k (.int .i64 (k : Nat)) j = .int .i64 (j : Nat)) := by
        intro j hj
        by_cases e : j = k
        · subst e; rw [upd_same]
        · rw [upd_other _ _ _ _ e]; exact hV.out j (by omega)
      have HF : Hid (ARow wr w.heap.size n V) := hfr
      clear hfr hfill
      go_wp2
      go_roundw
      case rel => exact ⟨k + 1, by omega, by go_num, hbr.setCell (by simp) _, _, HF.out.set k _ hlt, hV2⟩
      case measure => simp [intOf]; omega
    · clear hfill
      have : k = n := by omega
      subst this
      go_wp2
      go_ret
      exact ⟨rfl, hbr, hfr.congr (fun j hj => hV.out j hj)⟩

set_option maxHeartbeats 1000000 in
theorem clone13 (w : World) (a : Option Addr) (n c : Nat) (L : Nat → Nat) (G : Nat → Nat → Int) (hr : GRow w a n c L G) (hn : n ≤ 43690) (hL : ∀ i, i < n → L i ≤ 131072) :
    Calls Try.prog 13 #[.slice a n c] w fun e w' => ∃ a' c', e = .returned (.slice a' n c') ∧ Below w.heap.size w w' ∧ GRow w' a' n c' L G := by
  have hnn := fun (wx : World) (a : Option Addr) (n c : Nat) => Lib.run_eql_slice_nil (P := Try.prog) wx 23 22 a n c 0 0 Try.underlying23
  cases a with
  | none =>
    obtain ⟨rfl, rfl⟩ := hr.1 rfl
    go_enter Try.func13, Try.ntmps13
    go_wp2
    go_ret
    exact ⟨none, 0, rfl, Below.refl _ _, fun _ => ⟨rfl, rfl⟩, fun h => absurd h (by omega)⟩
  | some ad =>
  have HL : Hid (∀ i, i < n → L i ≤ 131072) := hL
  clear hL
  obtain ⟨i0, hi, hz0, hz1, hz2⟩ := info_parts Try.info22
  go_enter Try.func13, Try.ntmps13
  go_wp2_with (at_make; refine wpList_make_full _ rfl _ _ 23 rfl w.heap.size 22 i0 _ 1 Try.underlying23 hi hz0 hz1 _ _ _ _ n rfl rfl rfl rfl ?b1 ?b2 ?b3 ?_)
  case b1 => rw [hz2]; omega
  case b2 => unfold maxLen; omega
  case b3 => exact Nat.le_refl _
  intro w1 hown hgrow
  have hfill := ARow.made (.slice none 0 0) hown (toList_madeCells_one _ n)
  have hbel : Below w.heap.size w w1 := (Below.refl _ _).grown hgrow (Nat.le_refl _) (by simp)
  have hsz : w.heap.size < w1.heap.size := (hown.lt _ rfl).2
  clear hown hgrow
  go_wp2
  go_loopw [4] (fun i wr => ∃ k : Nat, k ≤ n ∧ i = .int .i64 k ∧ Below w.heap.size w wr ∧ w.heap.size < wr.heap.size ∧ ∃ V, ARow wr w.heap.size n V ∧ Hid (∀ j, j < k → ∃ x d, V j = .slice x (L j) d ∧ (∀ y, x = some y → y.block ≠ w.heap.size) ∧ IntRow wr x (L j) d (G j))) (fun i _ => n - (intOf i).toNat)
  case atStart => exact ⟨0, Nat.zero_le _, rfl, hbel, hsz, _, hfill, fun j hj => absurd hj (by omega)⟩
  case round =>
    obtain ⟨k, hk, rfl, hbr, hszr, V, hfr, hV⟩ := hrel
    by_cases hlt : k < n
    · obtain ⟨rb, ro, had, hc⟩ := hr.2 (by omega)
      obtain rfl := Option.some.inj had
      obtain ⟨x, d, hx0, hx1⟩ := hc k hlt
      have hrb : rb < w.heap.size := World.block_lt_of_cell? _ _ hx0
      have r0 : wr.cell? ⟨rb, ro + k, none⟩ = some (.slice x (L k) d) := (hbr.cell (by exact hrb)).trans hx0
      have hx2 : IntRow wr x (L k) d (G k) := CellRow.carry hx1 hbr (Nat.le_refl _)
      have hLk := HL.out k hlt
      have HF : Hid (ARow wr w.heap.size n V) := hfr
      clear hfr hc hfill had hx0 hx1
      go_wp2_with fail
      refine (clone12 wr x (L k) d (G k) hx2 hLk).mono ?_
      rintro e w2 ⟨a', c', rfl, hb2, hr2, hfresh⟩
      have hfr2 := HF.out.below hb2 hszr
      obtain ⟨g0, f0⟩ := hfr2 k hlt
      have HV : Hid (∀ j, j < k + 1 → ∃ x d, upd V k (.slice a' (L k) c') j = .slice x (L j) d ∧ (∀ y, x = some y → y.block ≠ w.heap.size) ∧ IntRow (w2.setCell ⟨w.heap.size, k, none⟩ (.slice a' (L k) c')) x (L j) d (G j)) := by
        intro j hj
        by_cases e : j = k
        · subst e
          have hne : ∀ y, a' = some y → y.block ≠ w.heap.size := fun y hy => by have := hfresh y hy; omega
          exact ⟨a', c', by rw [upd_same], hne, CellRow.setOther hr2 _ _ hne⟩
        · obtain ⟨x', d', h1, h2, h3⟩ := hV.out j (by omega)
          exact ⟨x', d', by rw [upd_other _ _ _ _ e, h1], h2, CellRow.setOther (CellRow.later h3 hb2) _ _ h2⟩
      have HF2 : Hid (ARow w2 w.heap.size n V) := hfr2
      have hbr2 := hbr.trans (hb2.mono hbr.size)
      have hszr2 : w.heap.size < w2.heap.size := Nat.lt_of_lt_of_le hszr hb2.size
      generalize V k = v0 at g0
      clear hfr2 hb2 hr2 hfresh hx2
      go_wp2
      go_roundw
      case rel => exact ⟨k + 1, by omega, by go_num, hbr2.setCell (by simp) _, by simpa using hszr2, _, HF2.out.set k _ hlt, HV⟩
      case measure => simp [intOf]; omega
    · clear hfill
      have : k = n := by omega
      subst this
      go_wp2
      go_ret
      refine ⟨_, _, rfl, hbr, by simp, fun hn0 => ⟨w.heap.size, 0, rfl, fun i hi => ?_⟩⟩
      obtain ⟨x, d, h1, _, h3⟩ := hV.out i hi
      exact ⟨x, d, by rw [Nat.zero_add, (hfr i hi).1, h1], h3⟩
end Go.Proofs.Qxb6600485a
