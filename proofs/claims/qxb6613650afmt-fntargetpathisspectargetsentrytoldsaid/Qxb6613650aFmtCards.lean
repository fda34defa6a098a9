/-
  DERIVED. GIVEN WITH THE SEED: THE CARDS: each row of Qxb6613650aFmtRows.lean that lists a variable, with what it lists TIED to the program's text (the seventh form; the later family's looks); each row that meets fmt, with fmt's text TOLD by the authors' own Lean function (tested against real Go, not proved from fmt's source: count such statements apart). THE CARD IS WHAT COUNTS. Prove the row's statement (the work); the ties are given (Qxb6613650aFmtTie.lean); close each card by the builder's one call (the guide's Derived/Test/ToyasCard.lean, 'card_holds'). Laid BY PROGRAM, IN A SANDBOX (cutbox-door.mjs). By AI agents, Wed Nov 11 2026. No macro, syntax, notation, axiom, sorry.
-/
import Derived.Test.Qxb6613650aFmtRows
import GoSem.ClaimSeven
namespace Go.Proofs.Qxb6613650aFmt
namespace Rows

/-- THE TOLD CARD OF 'zzlaws_pkg_api_b1.FnTargetPathIsSpecTargetsEntry'. -/
def fnTargetPathIsSpecTargetsEntryCard : Claim7 := { stood := { row := fnTargetPathIsSpecTargetsEntryRow, standIns := [], harness := (true, "321307907e5ec3014ed04437aaac684e2ffd4970826dcbe6ec6dd02227bc96bf"), looks := false }, told := true, goes := false }
def FnTargetPathIsSpecTargetsEntryToldSaid : Prop := Claim7.holds Tryf.pinned (.plain (OpenSpec.ofChange fnTargetPathIsSpecTargetsEntrySpec)) fnTargetPathIsSpecTargetsEntryCard
/-- ITS FALSE NEIGHBOUR. Refute it at one input. -/
def FnTargetPathIsSpecTargetsEntryToldWrongFalsely : Prop := Claim7.holds Tryf.pinned (.plain (OpenSpec.ofChange fnTargetPathIsSpecTargetsEntryWrong)) fnTargetPathIsSpecTargetsEntryCard

/-- THE TOLD CARD OF 'zzlaws_pkg_api_b1.FnTargetPathInjectiveAndReadsBack'. -/
def fnTargetPathInjectiveAndReadsBackCard : Claim7 := { stood := { row := fnTargetPathInjectiveAndReadsBackRow, standIns := [], harness := (true, "321307907e5ec3014ed04437aaac684e2ffd4970826dcbe6ec6dd02227bc96bf"), looks := false }, told := true, goes := false }
def FnTargetPathInjectiveAndReadsBackToldSaid : Prop := Claim7.holds Tryf.pinned (.plain (OpenSpec.ofChange fnTargetPathInjectiveAndReadsBackSpec)) fnTargetPathInjectiveAndReadsBackCard
/-- ITS FALSE NEIGHBOUR. Refute it at one input. -/
def FnTargetPathInjectiveAndReadsBackToldWrongFalsely : Prop := Claim7.holds Tryf.pinned (.plain (OpenSpec.ofChange fnTargetPathInjectiveAndReadsBackWrong)) fnTargetPathInjectiveAndReadsBackCard

/-- THE TOLD CARD OF 'zzlaws_pkg_api_b1.FnEntryPathNests'. -/
def fnEntryPathNestsCard : Claim7 := { stood := { row := fnEntryPathNestsRow, standIns := [], harness := (true, "321307907e5ec3014ed04437aaac684e2ffd4970826dcbe6ec6dd02227bc96bf"), looks := false }, told := true, goes := false }
def FnEntryPathNestsToldSaid : Prop := Claim7.holds Tryf.pinned (.plain (OpenSpec.ofChange fnEntryPathNestsSpec)) fnEntryPathNestsCard
/-- ITS FALSE NEIGHBOUR. Refute it at one input. -/
def FnEntryPathNestsToldWrongFalsely : Prop := Claim7.holds Tryf.pinned (.plain (OpenSpec.ofChange fnEntryPathNestsWrong)) fnEntryPathNestsCard

/-- THE TOLD CARD OF 'zzlaws_pkg_api_b1.FnEntryPathInjectiveAndReadsBack'. -/
def fnEntryPathInjectiveAndReadsBackCard : Claim7 := { stood := { row := fnEntryPathInjectiveAndReadsBackRow, standIns := [], harness := (true, "321307907e5ec3014ed04437aaac684e2ffd4970826dcbe6ec6dd02227bc96bf"), looks := false }, told := true, goes := false }
def FnEntryPathInjectiveAndReadsBackToldSaid : Prop := Claim7.holds Tryf.pinned (.plain (OpenSpec.ofChange fnEntryPathInjectiveAndReadsBackSpec)) fnEntryPathInjectiveAndReadsBackCard
/-- ITS FALSE NEIGHBOUR. Refute it at one input. -/
def FnEntryPathInjectiveAndReadsBackToldWrongFalsely : Prop := Claim7.holds Tryf.pinned (.plain (OpenSpec.ofChange fnEntryPathInjectiveAndReadsBackWrong)) fnEntryPathInjectiveAndReadsBackCard
end Rows
end Go.Proofs.Qxb6613650aFmt
