/-
  DERIVED. GIVEN WITH THE SEED: THE CARDS: each row of Qxb6605425aDoorRows.lean that lists a variable, with what it lists TIED to the program's text (the seventh form; the later family's looks); each row that meets fmt, with fmt's text TOLD by the authors' own Lean function (tested against real Go, not proved from fmt's source: count such statements apart). THE CARD IS WHAT COUNTS. Prove the row's statement (the work); the ties are given (Qxb6605425aDoorTie.lean); close each card by the builder's one call (the guide's Derived/Test/ToyasCard.lean, 'card_holds'). Laid BY PROGRAM, IN A SANDBOX (cutbox-door.mjs). By AI agents, Wed Nov 11 2026. No macro, syntax, notation, axiom, sorry.
-/
import Derived.Test.Qxb6605425aDoorRows
import GoSem.ClaimSeven
namespace Go.Proofs.Qxb6605425aDoor
namespace Rows

/-- THE TIED CARD OF 'zzlaws_client_b1.FnAppendSeqsReadsBackAsCanonicalList'. -/
def fnAppendSeqsReadsBackAsCanonicalListCard : Claim7 := { stood := { row := fnAppendSeqsReadsBackAsCanonicalListRow, standIns := [], harness := (true, "85d34338c5c511527b790ca2c5f0459df5d1844f26a84764b513f6741eda0f8a"), looks := false }, kinds := [], alts := [], laidByText := true, laidKinds := [.data, .data, .data], laidTests := true, laidLooks := .later }
def FnAppendSeqsReadsBackAsCanonicalListCardSaid : Prop := Claim7.holds Tryd.pinned (.plain (OpenSpec.ofChange fnAppendSeqsReadsBackAsCanonicalListSpec)) fnAppendSeqsReadsBackAsCanonicalListCard

/-- THE TIED CARD OF 'zzlaws_client_b1.FnAppendSeqsLengthIsClosedForm'. -/
def fnAppendSeqsLengthIsClosedFormCard : Claim7 := { stood := { row := fnAppendSeqsLengthIsClosedFormRow, standIns := [], harness := (true, "85d34338c5c511527b790ca2c5f0459df5d1844f26a84764b513f6741eda0f8a"), looks := false }, kinds := [], alts := [], laidByText := true, laidKinds := [.data, .data, .data], laidTests := true, laidLooks := .later }
def FnAppendSeqsLengthIsClosedFormCardSaid : Prop := Claim7.holds Tryd.pinned (.plain (OpenSpec.ofChange fnAppendSeqsLengthIsClosedFormSpec)) fnAppendSeqsLengthIsClosedFormCard
end Rows
end Go.Proofs.Qxb6605425aDoor
