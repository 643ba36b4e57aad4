/-
  DERIVED. GIVEN WITH THE SEED: THE CARDS: each row of Qxb6600485aDoorRows.lean that lists a variable, with what it lists TIED to the program's text (the seventh form; the later family's looks); each row that meets fmt, with fmt's text TOLD by the authors' own Lean function (tested against real Go, not proved from fmt's source: count such statements apart). THE CARD IS WHAT COUNTS. Prove the row's statement (the work); the ties are given (Qxb6600485aDoorTie.lean); close each card by the builder's one call (the guide's Derived/Test/ToyasCard.lean, 'card_holds'). Laid BY PROGRAM, IN A SANDBOX (cutbox-door.mjs). By AI agents, Wed Nov 11 2026. No macro, syntax, notation, axiom, sorry.
-/
import Derived.Test.Qxb6600485aDoorRows
import GoSem.ClaimSeven
namespace Go.Proofs.Qxb6600485aDoor
namespace Rows

/-- THE TIED CARD OF 'zzlaws_internal_history_b1.FnAppendLineReadsBackAsTheEvent'. -/
def fnAppendLineReadsBackAsTheEventCard : Claim7 := { stood := { row := fnAppendLineReadsBackAsTheEventRow, standIns := [], harness := (true, "41eaf6b71b73e26a22efeb66972159adb0f959ab746071a540ccc32a976f1052"), looks := false }, kinds := [], alts := [], laidByText := true, laidKinds := [.data, .data, .data], laidTests := true, laidLooks := .later }
def FnAppendLineReadsBackAsTheEventCardSaid : Prop := Claim7.holds Tryd.pinned (.plain (OpenSpec.ofChange fnAppendLineReadsBackAsTheEventSpec)) fnAppendLineReadsBackAsTheEventCard

/-- THE TIED CARD OF 'zzlaws_internal_history_b1.FnAppendLineKeepsBAsPrefix'. -/
def fnAppendLineKeepsBAsPrefixCard : Claim7 := { stood := { row := fnAppendLineKeepsBAsPrefixRow, standIns := [], harness := (true, "41eaf6b71b73e26a22efeb66972159adb0f959ab746071a540ccc32a976f1052"), looks := false }, kinds := [], alts := [], laidByText := true, laidKinds := [.data, .data, .data], laidTests := true, laidLooks := .later }
def FnAppendLineKeepsBAsPrefixCardSaid : Prop := Claim7.holds Tryd.pinned (.plain (OpenSpec.ofChange fnAppendLineKeepsBAsPrefixSpec)) fnAppendLineKeepsBAsPrefixCard
end Rows
end Go.Proofs.Qxb6600485aDoor
