/-
  FnAppendLineReadsBackAsTheEvent: the row and the tied card.
-/
import Derived.Test.Qxb6600485aDoorWalk
import Derived.Test.Qxb6600485aDoorTie
import Derived.Test.Qxb6600485aDoorCards
import Derived.ProofKit
import Derived.LaidMore
import Derived.OpenShut
import Derived.ChangeOld
import Derived.Below
import Derived.Stop.Joined
import Derived.Lib.LaidTab
import Derived.SevenTiedAt
namespace Go.Proofs.Qxb6600485aDoor
open Go.ChangeShapes Go.WideShapes Go.ChangeAt Go.RowKit
set_option linter.unusedVariables false

theorem own : ownKnob Tryd.prog.godebug = none := by kernel_rfl
theorem laidOut : laidOutB Tryd.prog = true := by kernel_rfl

/-- The door's own heap meets the condition. -/
theorem door_met (os : Os) (args : Array Value) : laidMetH Tryd.prog Rows.fnAppendLineReadsBackAsTheEventRow.laid ((World.doorLaid Tryd.prog 400 os).forCall (fun _ _ => 0) ⟨#[], args, []⟩).memory :=
  laidMetH_of_parts3 (fuel := 8) (laidMet_of_run' 8 (by kernel_rfl) (by kernel_rfl)) (by kernel_rfl) (by kernel_rfl)

theorem tab_eq {H : Type} : (Rows.laid_internal_strconv_uint64pow10 : DataW H) = Lib.tabData .u64 Lib.pow10Tab := by kernel_rfl

/-- What the condition gives the walk: the table of powers. -/
theorem of_laid {W : World} (h : laidMetH Tryd.prog Rows.fnAppendLineReadsBackAsTheEventRow.laid W) : Tab W.heap.size W := by
  rw [MakeChecks.laidMetH_plain _ _ _ (by kernel_rfl)] at h
  obtain ⟨ps, ⟨g0, t0, cs0, f0, p0, q0, hg0, ht0, hv0, hd0, ⟨g1, t1, cs1, f1, p1, q1, hg1, ht1, hv1, hd1, ⟨g2, t2, cs2, f2, p2, q2, hg2, ht2, hv2, hd2, _, _⟩, _⟩, _⟩, _, _⟩ := h
  obtain rfl := Option.some.inj ((show Tryd.prog.globalNamed "internal/strconv.uint64pow10" = some 0 by kernel_rfl).symm.trans hg2)
  obtain rfl := Option.some.inj ((show (Tryd.prog.globals[0]?).map (fun x => x.type) = some 45 by kernel_rfl).symm.trans ht2)
  rw [tab_eq] at hd2
  refine Lib.tabBelow_of_tabIs ?_
  show World.var? Tryd.prog W "internal/strconv.uint64pow10" = _
  rw [hv2, ← Lib.cells_of_tab Tryd.underlying45 Tryd.underlying34 (by kernel_rfl) (by kernel_rfl) hd2]

theorem u8_of {k : Int} (h : (Lit.int .u8 k).wf = true) : ∃ op : UInt8, k = (op.toNat : Int) := by
  have h' : 0 ≤ k ∧ k ≤ 255 := bounds_u8 h
  refine ⟨UInt8.ofNat k.toNat, ?_⟩
  rw [UInt8.toNat_ofNat']
  omega
theorem i64_of {k : Int} (h : (Lit.int .i64 k).wf = true) : -9223372036854775808 ≤ k ∧ k ≤ 9223372036854775807 := bounds_i64 h

set_option maxRecDepth 100000 in
theorem line_lifted (os : Os) (started : os.Started) (H : Type) (enc : TypeId × Value → H) :
    ReturnsInHanded {} Tryd.checked os 3 .any (fun w args => (Rows.fnAppendLineReadsBackAsTheEventSpec.pre enc Tryd.prog Tryd.f3 [] false w args ∧ laidMetH Tryd.prog Rows.fnAppendLineReadsBackAsTheEventRow.laid w) ∧ sizedMet enc Tryd.prog Tryd.f3 (OpenSpec.ofChange Rows.fnAppendLineReadsBackAsTheEventSpec) false w args)
      (Rows.fnAppendLineReadsBackAsTheEventSpec.post enc Tryd.prog Tryd.f3 false true false false) := by
  refine returnsInHanded_of_change_and (C := Tryd.checked) (X := fun w _ => laidMetH Tryd.prog Rows.fnAppendLineReadsBackAsTheEventRow.laid w) (fun _ _ _ hh h => h.of_heap hh) own started (by kernel_rfl) Tryd.func3
    (ChangeSpec.witness_shaped (enc := enc) (C := Tryd.checked) (os := os) (X := fun w _ => laidMetH Tryd.prog Rows.fnAppendLineReadsBackAsTheEventRow.laid w) false (World.doorLaid Tryd.prog 400 os) #[.int .i64 0, .int .u8 0, .int .i64 0, .int .i64 0, .bool false] 8 rfl (World.shaped_of_RefB (by kernel_rfl) (by kernel_rfl)) (by kernel_rfl) (by kernel_rfl) (by kernel_rfl) (door_met os _)) ?_
  intro W base args ds gs before hval0 hW _ _ hL _
  have hval : ∀ (j : Nat) t v, Tryd.f3.params[j]? = some t → args[j]? = some v → Value.okWide Tryd.prog W .any base t v := hval0
  have hW' := hW
  obtain ⟨p, q, hA0, hV, rfl, hfz, hnd⟩ := hW
  have hA : DataW.TrodAll enc Tryd.prog W 0 (fun _ => true) true Tryd.f3.params.toList args.toList ds p := hA0
  rw [Tryd.params3] at hA hval
  obtain ⟨v0, vs0, d0, ds0, p0, q0, hargs, rfl, rfl, h0, r0⟩ := trodAll_cons hA
  obtain ⟨v1, vs1, d1, ds1, p1, q1, rfl, rfl, rfl, h1, r1⟩ := trodAll_cons r0
  obtain ⟨v2, vs2, d2, ds2, p2, q2, rfl, rfl, rfl, h2, r2⟩ := trodAll_cons r1
  obtain ⟨v3, vs3, d3, ds3, p3, q3, rfl, rfl, rfl, h3, r3⟩ := trodAll_cons r2
  obtain ⟨v4, vs4, d4, ds4, p4, q4, rfl, rfl, rfl, h4, r4⟩ := trodAll_cons r3
  obtain ⟨rfl, rfl, rfl⟩ := trodAll_nil r4
  obtain rfl : args = #[v0, v1, v2, v3, v4] := by cases args; simp_all
  obtain ⟨rfl, rfl⟩ := trodVars_none hV
  obtain ⟨a0, rfl, rfl, rfl, w0⟩ := open_int Tryd.underlying3 (hval 0 3 v0 rfl rfl) h0
  obtain ⟨a1, rfl, rfl, rfl, w1⟩ := open_int Tryd.underlying5 (hval 1 5 v1 rfl rfl) h1
  obtain ⟨a2, rfl, rfl, rfl, w2⟩ := open_int Tryd.underlying3 (hval 2 3 v2 rfl rfl) h2
  obtain ⟨a3, rfl, rfl, rfl, w3⟩ := open_int Tryd.underlying3 (hval 3 3 v3 rfl rfl) h3
  obtain ⟨a4, rfl, rfl, rfl⟩ := open_bool Tryd.underlying4 (hval 4 4 v4 rfl rfl) h4
  have hT := of_laid hL
  clear hA0 hval0
  have walk : Calls Tryd.prog 3 #[.int .i64 a0, .int .u8 a1, .int .i64 a2, .int .i64 a3, .bool a4] W fun e w' => e = .returned (.bool true) ∧ Below W.heap.size W w' := by
    obtain ⟨op, hop⟩ := u8_of w1
    have b0 := i64_of w0
    have b2 := i64_of w2
    have b3 := i64_of w3
    rw [hop]
    exact law3_walk W a0 a2 a3 op a4 b0.1 b0.2 b2.1 b2.2 b3.1 b3.2 hT
  refine walk.mono fun e W' ⟨he, bel⟩ => ?_
  subst he
  exact ⟨_, rfl, _, _, _, [], _, [], hW', trodAll_mk1 (shut_bool Tryd.underlying4 _),
    (trodAll_cons_mk (shut_int Tryd.underlying3 w0) (trodAll_cons_mk (shut_int Tryd.underlying5 w1) (trodAll_cons_mk (shut_int Tryd.underlying3 w2) (trodAll_cons_mk (shut_int Tryd.underlying3 w3) (trodAll_cons_mk (shut_bool Tryd.underlying4 a4) trodAll_mk0))))), rfl, bel.frame _, fun h => by cases h⟩

theorem line_holds : Rows.FnAppendLineReadsBackAsTheEventSaid :=
  OpenClaim.holds_of_wide 3 Tryd.f3 rfl rfl rfl rfl rfl rfl rfl ⟨rfl, rfl, rfl, rfl, rfl⟩ rfl rfl rfl rfl rfl (by kernel_rfl) Tryd.func3 (by kernel_rfl)
    (of_decide_eq_true (by kernel_rfl)) (by unfold Func.isWrapper; first | (rw [if_pos (by decide +kernel)]; kernel_rfl) | (rw [if_neg (by decide +kernel)]; exact ⟨rfl, rfl⟩))
    (fun os started H enc _ => line_lifted os started H enc)

/-- the card -/
theorem fnAppendLineReadsBackAsTheEventCard_proved : Rows.FnAppendLineReadsBackAsTheEventCardSaid :=
  Claim7.holds_tied_plain_at .later [] [.data, .data, .data] true (true, "41eaf6b71b73e26a22efeb66972159adb0f959ab746071a540ccc32a976f1052") false
    line_holds (fun _ h => by cases h) (by kernel_rfl) (fun _ h => by cases h) fnAppendLineReadsBackAsTheEvent_row_tie rfl ⟨rfl, rfl⟩ (by kernel_rfl) rfl
    (fun f fn hf hfn => by
      obtain rfl : f = 3 := Option.some.inj ((show Tryd.prog.funcNamed Rows.fnAppendLineReadsBackAsTheEventRow.func = some 3 by kernel_rfl).symm.trans hf) |>.symm
      obtain rfl : fn = Tryd.f3 := (Option.some.inj (Tryd.func3.symm.trans hfn)).symm
      exact ⟨by kernel_rfl, fun j t ht => by
        rw [Tryd.params3] at ht
        have hs : t = 3 ∨ t = 5 ∨ t = 4 := by
          rcases j with _ | _ | _ | _ | _ | j
          · left; simpa using ht.symm
          · right; left; simpa using ht.symm
          · left; simpa using ht.symm
          · left; simpa using ht.symm
          · right; right; simpa using ht.symm
          · simp at ht
        rcases hs with rfl | rfl | rfl
        · exact (show Tryd.prog.wantsStandIn 3 = false by kernel_rfl)
        · exact (show Tryd.prog.wantsStandIn 5 = false by kernel_rfl)
        · exact (show Tryd.prog.wantsStandIn 4 = false by kernel_rfl)⟩)
    (by kernel_rfl)
end Go.Proofs.Qxb6600485aDoor
