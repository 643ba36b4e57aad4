/-
  PlatformForce and DueForce: their contracts.
-/
import Derived.Test.Qxb6603944aTiers
import Derived.Deep.RegionHeld3
namespace Go.Proofs.Qxb6603944a
open Go.RowKit
set_option linter.unusedVariables false

/-- the bytes of single_recharge -/
def sSingle : List UInt8 := [115, 105, 110, 103, 108, 101, 95, 114, 101, 99, 104, 97, 114, 103, 101]
def pfOn (tr : ByteArray) (fe : Bool) : Bool := if (tr.toList == sSingle) = true then true else fe
def pfAmt (tr : ByteArray) (th fa : Int) : Int := if (tr.toList == sSingle) = true then th else fa

set_option maxHeartbeats 400000 in
theorem pf22_any (w : World) (tr : ByteArray) (th am fa : Int) (fe : Bool) (p : Option Addr) :
    Calls Try.prog 22 #[.agg #[.string tr, .int .i64 th, .int .i64 am, .pointer p, .bool fe, .int .i64 fa]] w fun e w' => e = .returned (.agg #[.bool (pfOn tr fe), .int .i64 (pfAmt tr th fa)]) ∧ Below w.heap.size w w' := by
  by_cases c1 : (tr.toList == sSingle) = true
  · rw [pfOn, pfAmt, if_pos c1, if_pos c1]
    unfold sSingle at c1
    go_enter Try.func22, Try.ntmps22
    go_wp2
    exact bodyPost_ret (v := .agg #[.bool true, .int .i64 th]) (by simp [results, Try.results22, go_sem]) rfl ⟨rfl, ((Below.refl _ _).alloc (Nat.le_refl _) _).alloc (by simp) _⟩
  · rw [pfOn, pfAmt, if_neg c1, if_neg c1]
    have c1 : (tr.toList == sSingle) = false := by simpa using c1
    unfold sSingle at c1
    go_enter Try.func22, Try.ntmps22
    go_wp2
    exact bodyPost_ret (v := .agg #[.bool fe, .int .i64 fa]) (by simp [results, Try.results22, go_sem]) rfl ⟨rfl, ((Below.refl _ _).alloc (Nat.le_refl _) _).alloc (by simp) _⟩

/-- the six cells of a rule -/
def RuleIn (w : World) (b o : Nat) (tr : ByteArray) (th am fa : Int) (fe : Bool) (p : Option Addr) : Prop :=
  w.cell? ⟨b, o, none⟩ = some (.string tr) ∧ w.cell? ⟨b, o + 1, none⟩ = some (.int .i64 th) ∧ w.cell? ⟨b, o + 2, none⟩ = some (.int .i64 am) ∧ w.cell? ⟨b, o + 3, none⟩ = some (.pointer p) ∧
  w.cell? ⟨b, o + 4, none⟩ = some (.bool fe) ∧ w.cell? ⟨b, o + 4 + 1, none⟩ = some (.int .i64 fa)

theorem RuleIn.later {w w' : World} {b o : Nat} {tr : ByteArray} {th am fa : Int} {fe : Bool} {p : Option Addr} (h : RuleIn w b o tr th am fa fe p) (hb : Below w.heap.size w w') : RuleIn w' b o tr th am fa fe p :=
  ⟨cell_later hb h.1, cell_later hb h.2.1, cell_later hb h.2.2.1, cell_later hb h.2.2.2.1, cell_later hb h.2.2.2.2.1, cell_later hb h.2.2.2.2.2⟩

def dueOn (tr : ByteArray) (fe se : Bool) : Bool := pfOn tr fe || se
def dueAmt (tr : ByteArray) (th fa sa : Int) (fe se : Bool) : Int := if pfOn tr fe = true then pfAmt tr th fa else if se = true then sa else 0

theorem bcells {W w1 : World} (hb : Below W.heap.size W w1) : (∀ b o, b < W.heap.size → w1.cell? ⟨b, o, none⟩ = W.cell? ⟨b, o, none⟩) ∧ (∀ b o, b < W.heap.size → w1.frozen? ⟨b, o, none⟩ = W.frozen? ⟨b, o, none⟩) :=
  ⟨fun b o h => hb.cell (p := ⟨b, o, none⟩) h, fun b o h => hb.frozen (p := ⟨b, o, none⟩) h⟩

set_option maxHeartbeats 400000 in
theorem due21_none (w : World) (p : Option Addr) (paid : Bool) (se : Bool) (sa : Int) (h : p = none ∨ paid = true) :
    Calls Try.prog 21 #[.pointer p, .bool paid, .agg #[.bool se, .int .i64 sa]] w fun e w' => e = .returned (.agg #[.bool false, .int .i64 0]) ∧ Below w.heap.size w w' := by
  cases p with
  | none =>
    go_enter Try.func21, Try.ntmps21
    go_wp2
    exact bodyPost_ret (v := .agg #[.bool false, .int .i64 0]) (by simp [results, Try.results21, go_sem]) rfl ⟨rfl, ((Below.refl _ _).alloc (Nat.le_refl _) _).alloc (by simp) _⟩
  | some ad =>
    obtain rfl : paid = true := by simpa using h
    go_enter Try.func21, Try.ntmps21
    go_wp2
    exact bodyPost_ret (v := .agg #[.bool false, .int .i64 0]) (by simp [results, Try.results21, go_sem]) rfl ⟨rfl, ((Below.refl _ _).alloc (Nat.le_refl _) _).alloc (by simp) _⟩

set_option maxHeartbeats 400000 in
theorem due21_some (w : World) (b o : Nat) (tr : ByteArray) (th am fa : Int) (fe : Bool) (p : Option Addr) (se : Bool) (sa : Int) (h : RuleIn w b o tr th am fa fe p) :
    Calls Try.prog 21 #[.pointer (some ⟨b, o, none⟩), .bool false, .agg #[.bool se, .int .i64 sa]] w fun e w' => e = .returned (.agg #[.bool (dueOn tr fe se), .int .i64 (dueAmt tr th fa sa fe se)]) ∧ Below w.heap.size w w' := by
  have hR := h
  obtain ⟨h0, h1, h2, h3, h4, h5⟩ := h
  have hb := World.block_lt_of_cell? _ _ h0
  simp only at hb
  have hfld : ∀ (w : World) (x : Bool) (y : Int), (Instr.field 34 (.agg #[.bool x, .int .i64 y]) 0).run Try.prog w = .ok (.bool x) w := fun _ _ _ => by kernel_rfl
  cases hon : pfOn tr fe with
  | true =>
    rw [show dueOn tr fe se = true by simp [dueOn, hon], show dueAmt tr th fa sa fe se = pfAmt tr th fa by simp [dueAmt, hon]]
    go_enter Try.func21, Try.ntmps21
    go_wp2_with fail
    refine (pf22_any _ _ _ _ _ _ _).mono ?_
    rintro e w1 ⟨rfl, hb1⟩
    rw [hon]
    obtain ⟨hc1, hf1⟩ := bcells hb1
    have hz1 := hb1.size
    simp only [World.size_alloc] at hz1
    have hbw : Below w.heap.size w w1 := (((Below.refl _ _).alloc (Nat.le_refl _) _).alloc (by simp) _).trans (hb1.mono (by simp only [World.size_alloc]; omega))
    have hon' : Hid (pfOn tr fe = true) := hon
    obtain ⟨k0, k1, k2, k3, k4, k5⟩ := hR.later hbw
    clear hon
    go_wp2_with fail
    refine (pf22_any _ _ _ _ _ _ _).mono ?_
    rintro e w2 ⟨rfl, hb2⟩
    rw [hon'.out]
    obtain ⟨hc2, hf2⟩ := bcells hb2
    have hz2 := hb2.size
    have q0 : w2.cell? ⟨w.heap.size + 1, 0, none⟩ = some (.bool false) := by rw [hc2 _ _ (by omega), hc1 _ _ (by simp only [World.size_alloc]; omega), World.cell?_alloc_at _ _ _ _ (by simp)]; rfl
    have q1 : w2.cell? ⟨w.heap.size + 1, 1, none⟩ = some (.int .i64 0) := by rw [hc2 _ _ (by omega), hc1 _ _ (by simp only [World.size_alloc]; omega), World.cell?_alloc_at _ _ _ _ (by simp)]; rfl
    have f0 : w2.frozen? ⟨w.heap.size + 1, 0, none⟩ = false := by rw [hf2 _ _ (by omega), hf1 _ _ (by simp only [World.size_alloc]; omega), World.frozen?_alloc_at _ _ _ _ (by simp)]
    have f1 : w2.frozen? ⟨w.heap.size + 1, 1, none⟩ = false := by rw [hf2 _ _ (by omega), hf1 _ _ (by simp only [World.size_alloc]; omega), World.frozen?_alloc_at _ _ _ _ (by simp)]
    have hbw2 : Below w.heap.size w w2 := hbw.trans (hb2.mono (by omega))
    clear hc1 hf1 hc2 hf2 hb1 hb2 hbw
    go_wp2
    exact bodyPost_ret (v := .agg #[.bool true, .int .i64 (pfAmt tr th fa)]) (by simp [results, Try.results21, go_sem, q0, q1]) rfl ⟨rfl, (hbw2.setCell (by simp) _).setCell (by simp) _⟩
  | false =>
    cases se with
    | true =>
      rw [show dueOn tr fe true = true by simp [dueOn], show dueAmt tr th fa sa fe true = sa by simp [dueAmt, hon]]
      go_enter Try.func21, Try.ntmps21
      go_wp2_with fail
      refine (pf22_any _ _ _ _ _ _ _).mono ?_
      rintro e w1 ⟨rfl, hb1⟩
      rw [hon]
      obtain ⟨hc1, hf1⟩ := bcells hb1
      have hz1 := hb1.size
      simp only [World.size_alloc] at hz1
      have hbw : Below w.heap.size w w1 := (((Below.refl _ _).alloc (Nat.le_refl _) _).alloc (by simp) _).trans (hb1.mono (by simp only [World.size_alloc]; omega))
      have q0 : w1.cell? ⟨w.heap.size + 1, 0, none⟩ = some (.bool false) := by rw [hc1 _ _ (by simp only [World.size_alloc]; omega), World.cell?_alloc_at _ _ _ _ (by simp)]; rfl
      have q1 : w1.cell? ⟨w.heap.size + 1, 1, none⟩ = some (.int .i64 0) := by rw [hc1 _ _ (by simp only [World.size_alloc]; omega), World.cell?_alloc_at _ _ _ _ (by simp)]; rfl
      have s0 : w1.cell? ⟨w.heap.size, 0, none⟩ = some (.bool true) := by rw [hc1 _ _ (by simp only [World.size_alloc]; omega), World.cell?_alloc_past _ _ _ (by simp), World.cell?_alloc_at _ _ _ _ (by simp)]; rfl
      have s1 : w1.cell? ⟨w.heap.size, 1, none⟩ = some (.int .i64 sa) := by rw [hc1 _ _ (by simp only [World.size_alloc]; omega), World.cell?_alloc_past _ _ _ (by simp), World.cell?_alloc_at _ _ _ _ (by simp)]; rfl
      have f0 : w1.frozen? ⟨w.heap.size + 1, 0, none⟩ = false := by rw [hf1 _ _ (by simp only [World.size_alloc]; omega), World.frozen?_alloc_at _ _ _ _ (by simp)]
      have f1 : w1.frozen? ⟨w.heap.size + 1, 1, none⟩ = false := by rw [hf1 _ _ (by simp only [World.size_alloc]; omega), World.frozen?_alloc_at _ _ _ _ (by simp)]
      clear hc1 hf1 hb1 hon
      go_wp2
      exact bodyPost_ret (v := .agg #[.bool true, .int .i64 sa]) (by simp [results, Try.results21, go_sem, q0, q1]) rfl ⟨rfl, (hbw.setCell (by simp) _).setCell (by simp) _⟩
    | false =>
      rw [show dueOn tr fe false = false by simp [dueOn, hon], show dueAmt tr th fa sa fe false = 0 by simp [dueAmt, hon]]
      go_enter Try.func21, Try.ntmps21
      go_wp2_with fail
      refine (pf22_any _ _ _ _ _ _ _).mono ?_
      rintro e w1 ⟨rfl, hb1⟩
      rw [hon]
      obtain ⟨hc1, hf1⟩ := bcells hb1
      have hz1 := hb1.size
      simp only [World.size_alloc] at hz1
      have hbw : Below w.heap.size w w1 := (((Below.refl _ _).alloc (Nat.le_refl _) _).alloc (by simp) _).trans (hb1.mono (by simp only [World.size_alloc]; omega))
      have q0 : w1.cell? ⟨w.heap.size + 1, 0, none⟩ = some (.bool false) := by rw [hc1 _ _ (by simp only [World.size_alloc]; omega), World.cell?_alloc_at _ _ _ _ (by simp)]; rfl
      have q1 : w1.cell? ⟨w.heap.size + 1, 1, none⟩ = some (.int .i64 0) := by rw [hc1 _ _ (by simp only [World.size_alloc]; omega), World.cell?_alloc_at _ _ _ _ (by simp)]; rfl
      have s0 : w1.cell? ⟨w.heap.size, 0, none⟩ = some (.bool false) := by rw [hc1 _ _ (by simp only [World.size_alloc]; omega), World.cell?_alloc_past _ _ _ (by simp), World.cell?_alloc_at _ _ _ _ (by simp)]; rfl
      have s1 : w1.cell? ⟨w.heap.size, 1, none⟩ = some (.int .i64 sa) := by rw [hc1 _ _ (by simp only [World.size_alloc]; omega), World.cell?_alloc_past _ _ _ (by simp), World.cell?_alloc_at _ _ _ _ (by simp)]; rfl
      have f0 : w1.frozen? ⟨w.heap.size + 1, 0, none⟩ = false := by rw [hf1 _ _ (by simp only [World.size_alloc]; omega), World.frozen?_alloc_at _ _ _ _ (by simp)]
      have f1 : w1.frozen? ⟨w.heap.size + 1, 1, none⟩ = false := by rw [hf1 _ _ (by simp only [World.size_alloc]; omega), World.frozen?_alloc_at _ _ _ _ (by simp)]
      clear hc1 hf1 hb1 hon
      go_wp2
      exact bodyPost_ret (v := .agg #[.bool false, .int .i64 0]) (by simp [results, Try.results21, go_sem, q0, q1]) rfl ⟨rfl, (hbw.setCell (by simp) _).setCell (by simp) _⟩
end Go.Proofs.Qxb6603944a
