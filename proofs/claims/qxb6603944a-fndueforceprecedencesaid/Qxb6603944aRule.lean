/-
  The rule functions: their contracts.
-/
import Derived.Test.Qxb6603944aForce
namespace Go.Proofs.Qxb6603944a
open Go.RowKit
set_option linter.unusedVariables false

/-- a pointer to tiers that may be nil -/
def TierP (w : World) (p : Option Addr) : Prop := p = none ∨ ∃ b o dim n T A, p = some ⟨b, o, none⟩ ∧ TiersIn w b o dim n T A ∧ dim.size ≤ maxLen ∧ n ≤ maxLen
/-- .. of few levels -/
def TierQ (w : World) (p : Option Addr) : Prop := p = none ∨ ∃ b o dim n T A, p = some ⟨b, o, none⟩ ∧ TiersIn w b o dim n T A ∧ n ≤ 65536
theorem TierQ.later {w w' : World} {p : Option Addr} (h : TierQ w p) (hb : Below w.heap.size w w') : TierQ w' p := by
  rcases h with h | ⟨b, o, dim, n, T, A, h1, h2, h3⟩
  · exact .inl h
  · exact .inr ⟨b, o, dim, n, T, A, h1, h2.later hb, h3⟩

theorem clone12_q (w : World) (p : Option Addr) (h : TierQ w p) : Calls Try.prog 12 #[.pointer p] w fun e w' => ∃ q, e = .returned (.pointer q) ∧ Below w.heap.size w w' ∧ TierQ w' q := by
  rcases h with rfl | ⟨b, o, dim, n, T, A, rfl, h2, h3⟩
  · exact (clone12_nil w).mono fun e w' ⟨he, hw⟩ => by subst he; subst hw; exact ⟨none, rfl, Below.refl _ _, .inl rfl⟩
  · exact (clone12_any w b o dim n T A h2 h3).mono fun e w' ⟨g, he, hb, ht⟩ => ⟨some ⟨g, 0, none⟩, he, hb, .inr ⟨g, 0, dim, n, T, A, rfl, ht, h3⟩⟩
theorem to13_q (w : World) (p : Option Addr) (h : TierQ w p) : Calls Try.prog 13 #[.pointer p] w fun e w' => ∃ q, e = .returned (.pointer q) ∧ Below w.heap.size w w' ∧ TierQ w' q := by
  rcases h with rfl | ⟨b, o, dim, n, T, A, rfl, h2, h3⟩
  · exact (to13_nil w).mono fun e w' ⟨he, hw⟩ => by subst he; subst hw; exact ⟨none, rfl, Below.refl _ _, .inl rfl⟩
  · exact (to13_any w b o dim n T A h2 h3).mono fun e w' ⟨g, he, hb, ht⟩ => ⟨some ⟨g, 0, none⟩, he, hb, .inr ⟨g, 0, dim, n, T, A, rfl, ht, h3⟩⟩

set_option maxHeartbeats 400000 in
theorem clone19_nil (w : World) : Calls Try.prog 19 #[.pointer none] w fun e w' => e = .returned (.pointer none) ∧ w' = w := by
  go_enter Try.func19, Try.ntmps19
  go_wp2
  go_ret
  exact ⟨rfl, rfl⟩
set_option maxHeartbeats 400000 in
theorem to20_nil (w : World) : Calls Try.prog 20 #[.pointer none] w fun e w' => e = .returned (.pointer none) ∧ w' = w := by
  go_enter Try.func20, Try.ntmps20
  go_wp2
  go_ret
  exact ⟨rfl, rfl⟩

theorem keep6 {w w' : World} {b o : Nat} {tr : ByteArray} {th am fa : Int} {fe : Bool} {p : Option Addr} (hb : Below w.heap.size w w')
    (h : w.cell? ⟨b, o, none⟩ = some (.string tr) ∧ w.cell? ⟨b, o + 1, none⟩ = some (.int .i64 th) ∧ w.cell? ⟨b, o + 2, none⟩ = some (.int .i64 am) ∧ w.cell? ⟨b, o + 3, none⟩ = some (.pointer p) ∧ w.cell? ⟨b, o + 4, none⟩ = some (.bool fe) ∧ w.cell? ⟨b, o + 5, none⟩ = some (.int .i64 fa)) :
    w'.cell? ⟨b, o, none⟩ = some (.string tr) ∧ w'.cell? ⟨b, o + 1, none⟩ = some (.int .i64 th) ∧ w'.cell? ⟨b, o + 2, none⟩ = some (.int .i64 am) ∧ w'.cell? ⟨b, o + 3, none⟩ = some (.pointer p) ∧ w'.cell? ⟨b, o + 4, none⟩ = some (.bool fe) ∧ w'.cell? ⟨b, o + 5, none⟩ = some (.int .i64 fa) :=
  ⟨cell_later hb h.1, cell_later hb h.2.1, cell_later hb h.2.2.1, cell_later hb h.2.2.2.1, cell_later hb h.2.2.2.2.1, cell_later hb h.2.2.2.2.2⟩

theorem RuleIn.new (w : World) (tr : ByteArray) (th am fa : Int) (fe : Bool) (p : Option Addr) (t : TypeId) : RuleIn (w.alloc (.cells #[.string tr, .int .i64 th, .int .i64 am, .pointer p, .bool fe, .int .i64 fa] t)) w.heap.size 0 tr th am fa fe p := by
  refine ⟨?_, ?_, ?_, ?_, ?_, ?_⟩ <;> (rw [World.cell?_alloc_at _ _ _ _ rfl]; rfl)

set_option maxHeartbeats 1000000 in
theorem clone19_any (w : World) (b o : Nat) (tr : ByteArray) (th am fa : Int) (fe : Bool) (p : Option Addr) (h : RuleIn w b o tr th am fa fe p) (hp : TierQ w p) :
    Calls Try.prog 19 #[.pointer (some ⟨b, o, none⟩)] w fun e w' => ∃ g q, e = .returned (.pointer (some ⟨g, 0, none⟩)) ∧ Below w.heap.size w w' ∧ RuleIn w' g 0 tr th am fa fe q ∧ TierQ w' q := by
  obtain ⟨h0, h1, h2, h3, h4, h5⟩ := h
  go_enter Try.func19, Try.ntmps19
  go_wp2
  go_region_held3 (fun w' => w'.cell? ⟨b, o, none⟩ = some (.string tr) ∧ w'.cell? ⟨b, o + 1, none⟩ = some (.int .i64 th) ∧ w'.cell? ⟨b, o + 2, none⟩ = some (.int .i64 am) ∧ w'.cell? ⟨b, o + 3, none⟩ = some (.pointer p) ∧ w'.cell? ⟨b, o + 4, none⟩ = some (.bool fe) ∧ w'.cell? ⟨b, o + 5, none⟩ = some (.int .i64 fa)) (first | go_keep | exact keep6 (by assumption) (by assumption)) ((go_at_call 12; refine (clone12_q _ _ (hp.later ((Below.refl _ _).drew))).mono ?_; rintro e w1 ⟨q, rfl, hb1, hq⟩))
  go_wp2
  go_ret
  have hbw : Below w.heap.size w w1 := ((Below.refl _ _).drew).trans hb1
  exact ⟨w1.heap.size, q, rfl, hbw.alloc hbw.size _, RuleIn.new _ _ _ _ _ _ _ _, hq.later ((Below.refl _ _).alloc (Nat.le_refl _) _)⟩

set_option maxHeartbeats 1000000 in
theorem to20_any (w : World) (b o : Nat) (tr : ByteArray) (th am fa : Int) (fe : Bool) (p : Option Addr) (h : RuleIn w b o tr th am fa fe p) (hp : TierQ w p) :
    Calls Try.prog 20 #[.pointer (some ⟨b, o, none⟩)] w fun e w' => ∃ g q, e = .returned (.pointer (some ⟨g, 0, none⟩)) ∧ Below w.heap.size w w' ∧ RuleIn w' g 0 tr th am fa fe q ∧ TierQ w' q := by
  obtain ⟨h0, h1, h2, h3, h4, h5⟩ := h
  go_enter Try.func20, Try.ntmps20
  go_wp2
  go_region_held3 (fun w' => w'.cell? ⟨b, o, none⟩ = some (.string tr) ∧ w'.cell? ⟨b, o + 1, none⟩ = some (.int .i64 th) ∧ w'.cell? ⟨b, o + 2, none⟩ = some (.int .i64 am) ∧ w'.cell? ⟨b, o + 3, none⟩ = some (.pointer p) ∧ w'.cell? ⟨b, o + 4, none⟩ = some (.bool fe) ∧ w'.cell? ⟨b, o + 5, none⟩ = some (.int .i64 fa)) (first | go_keep | exact keep6 (by assumption) (by assumption)) ((go_at_call 13; refine (to13_q _ _ (hp.later ((Below.refl _ _).drew))).mono ?_; rintro e w1 ⟨q, rfl, hb1, hq⟩))
  go_wp2
  go_ret
  have hbw : Below w.heap.size w w1 := ((Below.refl _ _).drew).trans hb1
  exact ⟨w1.heap.size, q, rfl, hbw.alloc hbw.size _, RuleIn.new _ _ _ _ _ _ _ _, hq.later ((Below.refl _ _).alloc (Nat.le_refl _) _)⟩

set_option maxHeartbeats 400000 in
theorem pfits18_nil (w : World) : Calls Try.prog 18 #[.pointer none] w fun e w' => RetB (fun _ => True) e ∧ Below w.heap.size w w' := by
  go_enter Try.func18, Try.ntmps18
  go_wp2
  go_ret
  exact ⟨⟨_, rfl, trivial⟩, Below.refl _ _⟩

theorem fits10_q (s : ByteArray) (w : World) (hs : s.size ≤ maxLen) (p : Option Addr) (h : TierP w p) :
    Calls Try.prog 10 #[.string s, .pointer p] w fun e w' => RetB (fun r => r = true → TierQ w p) e ∧ ∃ m, w' = w.drewN m := by
  rcases h with rfl | ⟨b, o, dim, n, T, A, rfl, h2, h3, h4⟩
  · exact (fits10_nil s w hs).mono fun e w' ⟨⟨r, he, _⟩, hw⟩ => ⟨⟨r, he, fun _ => .inl rfl⟩, 0, hw⟩
  · exact (fits10_ptr s w hs b o dim n T A h2 h3 h4).mono fun e w' ⟨⟨r, he, hr⟩, hw⟩ => ⟨⟨r, he, fun h => .inr ⟨b, o, dim, n, T, A, rfl, h2, hr h⟩⟩, hw⟩

set_option maxHeartbeats 400000 in
theorem pfits18_any (w : World) (b o : Nat) (tr : ByteArray) (th am fa : Int) (fe : Bool) (p : Option Addr) (h : RuleIn w b o tr th am fa fe p) (hp : TierP w p) (hs : tr.size ≤ maxLen) :
    Calls Try.prog 18 #[.pointer (some ⟨b, o, none⟩)] w fun e w' => RetB (fun r => r = true → TierQ w p) e ∧ Below w.heap.size w w' := by
  obtain ⟨h0, h1, h2, h3, h4, h5⟩ := h
  go_enter Try.func18, Try.ntmps18
  go_wp2
  go_region_held3 (fun w' => w'.cell? ⟨b, o, none⟩ = some (.string tr) ∧ w'.cell? ⟨b, o + 3, none⟩ = some (.pointer p)) (first | go_keep | (exact ⟨cell_later (by assumption) h0, cell_later (by assumption) h3⟩)) ((go_at_call 10; refine (fits10_q _ _ hs _ ?_).mono ?_; (rcases hp with hp | ⟨b', o', dim, n, T, A, e1, e2, e3, e4⟩; exact .inl hp; exact .inr ⟨b', o', dim, n, T, A, e1, e2.later (Below.refl _ _).drew, e3, e4⟩); rintro e w1 ⟨⟨r, rfl, hr⟩, m, rfl⟩))
  go_wp2
  go_ret
  exact ⟨⟨r, rfl, fun h => (hr h).later ⟨rfl, rfl, rfl, Nat.le_refl _, fun _ _ => rfl⟩⟩, below_drewN (Below.refl _ _) _⟩

set_option maxHeartbeats 1000000 in
theorem bytes17_nil (w : World) (paid se : Bool) (sa : Int) : Calls Try.prog 17 #[.pointer none, .bool paid, .agg #[.bool se, .int .i64 sa]] w fun e w' => RetB (fun _ => True) e ∧ Below w.heap.size w w' := by
  go_enter Try.func17, Try.ntmps17
  go_wp2
  go_ret
  exact ⟨⟨_, rfl, trivial⟩, (Below.refl _ _).alloc (Nat.le_refl _) _⟩

set_option maxHeartbeats 1000000 in
theorem bytes17_any (w : World) (paid se : Bool) (sa : Int) (b o : Nat) (tr : ByteArray) (th am fa : Int) (fe : Bool) (p : Option Addr) (h : RuleIn w b o tr th am fa fe p) (hp : TierP w p) (hs : tr.size ≤ maxLen) :
    Calls Try.prog 17 #[.pointer (some ⟨b, o, none⟩), .bool paid, .agg #[.bool se, .int .i64 sa]] w fun e w' => RetB (fun _ => True) e ∧ Below w.heap.size w w' := by
  obtain ⟨h0, h1, h2, h3, h4, h5⟩ := h
  have hb := World.block_lt_of_cell? _ _ h0
  simp only at hb
  unfold maxLen at hs
  rcases hp with rfl | ⟨b', o', dim, n, T, A, rfl, ⟨a, c, d0, d1, _⟩, hd, hn⟩
  · go_enter Try.func17, Try.ntmps17
    go_wp2
    all_goals (go_ret; exact ⟨⟨_, rfl, trivial⟩, (Below.refl _ _).alloc (Nat.le_refl _) _⟩)
  · unfold maxLen at hd hn
    have hb' := World.block_lt_of_cell? _ _ d0
    simp only at hb'
    go_enter Try.func17, Try.ntmps17
    go_wp2
    all_goals (go_ret; exact ⟨⟨_, rfl, trivial⟩, (Below.refl _ _).alloc (Nat.le_refl _) _⟩)

set_option maxHeartbeats 1000000 in
theorem bytes23_nil (w : World) (paid se : Bool) (sa : Int) : Calls Try.prog 23 #[.pointer none, .bool paid, .agg #[.bool se, .int .i64 sa]] w fun e w' => RetB (fun _ => True) e ∧ Below w.heap.size w w' := by
  go_enter Try.func23, Try.ntmps23
  go_wp2
  go_ret
  exact ⟨⟨_, rfl, trivial⟩, (Below.refl _ _).alloc (Nat.le_refl _) _⟩

set_option maxHeartbeats 1000000 in
theorem bytes23_any (w : World) (paid se : Bool) (sa : Int) (b o : Nat) (tr : ByteArray) (th am fa : Int) (fe : Bool) (p : Option Addr) (h : RuleIn w b o tr th am fa fe p) (hp : TierP w p) (hs : tr.size ≤ maxLen) :
    Calls Try.prog 23 #[.pointer (some ⟨b, o, none⟩), .bool paid, .agg #[.bool se, .int .i64 sa]] w fun e w' => RetB (fun _ => True) e ∧ Below w.heap.size w w' := by
  obtain ⟨h0, h1, h2, h3, h4, h5⟩ := h
  have hb := World.block_lt_of_cell? _ _ h0
  simp only at hb
  unfold maxLen at hs
  rcases hp with rfl | ⟨b', o', dim, n, T, A, rfl, ⟨a, c, d0, d1, _⟩, hd, hn⟩
  · go_enter Try.func23, Try.ntmps23
    go_wp2
    all_goals (go_ret; exact ⟨⟨_, rfl, trivial⟩, (Below.refl _ _).alloc (Nat.le_refl _) _⟩)
  · unfold maxLen at hd hn
    have hb' := World.block_lt_of_cell? _ _ d0
    simp only at hb'
    go_enter Try.func23, Try.ntmps23
    go_wp2
    all_goals (go_ret; exact ⟨⟨_, rfl, trivial⟩, (Below.refl _ _).alloc (Nat.le_refl _) _⟩)
end Go.Proofs.Qxb6603944a
