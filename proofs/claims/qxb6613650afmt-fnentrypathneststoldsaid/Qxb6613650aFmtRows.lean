/-
  No cell of these rows narrows 'for every input' (looked for: loops, veiled, ifaces, maps, wideKeys, modest, calm, conditions, laid).
  DERIVED. THE GIVEN ROWS OF THIS SEAT. 4 by the template 'for every input the law returns true; each argument reads behind the call as it read before'; 0 by the template 'total and deterministic' (their statements: Qxb6613650aFmtTotals.lean).
  GIVEN WITH THE SEED: the statements are not yours to turn. If you find one false, say at which input.
  Laid BY PROGRAM, IN A SANDBOX (cutbox-rows.mjs): the forced cells as the released guide's own fill.sh prints them over the translation 0976dbe7e57be06f… (all of the seat's roots in one cut). By AI agents, Wed Nov 11 2026. No macro, syntax, notation, axiom, sorry.
-/
import Derived.Test.Qxb6613650aFmtChecked
import GoSem.Claim
import GoSem.ClaimJoined
import GoSem.ClaimMapViews
import Derived.JoinedTies
import Derived.KernelRfl
namespace Go.Proofs.Qxb6613650aFmt
/- THE CELL 'sum', in the pinned program and in every row, IS THE sha256 OF THE DUMP (.gsa) THAT Qxb6613650aFmtProg.lean LOADS. Nothing in Lean hashes anything: it is a label: what it is worth is what the hold of that sum in a sandbox is worth. -/
noncomputable def Tryf.pinned : Pinned := { name := "qxb6613650afmt", sum := "0976dbe7e57be06f2f62df699d3661b26e10ac72b5d8415906fc1bdc6d4cc56c", checked := Tryf.checked }
namespace Rows
def none {H : Type} : Left H := { results := [], args := [] }

/-- 'zzlaws_pkg_api_b1.FnTargetPathIsSpecTargetsEntry': WHATEVER THE INPUT: true; the input reads as it did. -/
def fnTargetPathIsSpecTargetsEntrySpec : ChangeSpec := { name := "fnTargetPathIsSpecTargetsEntry", fn := fun _ => fun
  | [d] => { results := [.lit (.bool true)], args := [d] }
  | _ => none }
def fnTargetPathIsSpecTargetsEntryRow : OpenClaim := { program := "qxb6613650afmt", sum := "0976dbe7e57be06f2f62df699d3661b26e10ac72b5d8415906fc1bdc6d4cc56c", func := "example.com/fanfold/fanfold/zzlaws_pkg_api_b1.FnTargetPathIsSpecTargetsEntry", spec := "fnTargetPathIsSpecTargetsEntry", stops := ["fmt.Sprintf"], inPlace := ["fmt.Sprintf"], apart := false }
/-- NO THEOREM (fmt's text is open here; it may be false): for the released tool's asking of the row's closed facts alone. THE STATEMENT IS 'FnTargetPathIsSpecTargetsEntryToldSaid' (Qxb6613650aFmtCards.lean). -/
def FnTargetPathIsSpecTargetsEntryFormAsk : Prop := fnTargetPathIsSpecTargetsEntryRow.holds Tryf.pinned (OpenSpec.ofChange fnTargetPathIsSpecTargetsEntrySpec)

/-- ITS FALSE NEIGHBOUR: 'it returns false'. Refute it at one input. -/
def fnTargetPathIsSpecTargetsEntryWrong : ChangeSpec := { name := "fnTargetPathIsSpecTargetsEntry", fn := fun _ => fun
  | [d] => { results := [.lit (.bool false)], args := [d] }
  | _ => none }
def FnTargetPathIsSpecTargetsEntryWrongFormAsk : Prop := fnTargetPathIsSpecTargetsEntryRow.holds Tryf.pinned (OpenSpec.ofChange fnTargetPathIsSpecTargetsEntryWrong)

/-- 'zzlaws_pkg_api_b1.FnTargetPathInjectiveAndReadsBack': WHATEVER THE INPUT: true; the input reads as it did. -/
def fnTargetPathInjectiveAndReadsBackSpec : ChangeSpec := { name := "fnTargetPathInjectiveAndReadsBack", fn := fun _ => fun
  | [d1, d2] => { results := [.lit (.bool true)], args := [d1, d2] }
  | _ => none }
def fnTargetPathInjectiveAndReadsBackRow : OpenClaim := { program := "qxb6613650afmt", sum := "0976dbe7e57be06f2f62df699d3661b26e10ac72b5d8415906fc1bdc6d4cc56c", func := "example.com/fanfold/fanfold/zzlaws_pkg_api_b1.FnTargetPathInjectiveAndReadsBack", spec := "fnTargetPathInjectiveAndReadsBack", stops := ["fmt.Sprintf"], inPlace := ["fmt.Sprintf"], apart := false }
/-- NO THEOREM (fmt's text is open here; it may be false): for the released tool's asking of the row's closed facts alone. THE STATEMENT IS 'FnTargetPathInjectiveAndReadsBackToldSaid' (Qxb6613650aFmtCards.lean). -/
def FnTargetPathInjectiveAndReadsBackFormAsk : Prop := fnTargetPathInjectiveAndReadsBackRow.holds Tryf.pinned (OpenSpec.ofChange fnTargetPathInjectiveAndReadsBackSpec)

/-- ITS FALSE NEIGHBOUR: 'it returns false'. Refute it at one input. -/
def fnTargetPathInjectiveAndReadsBackWrong : ChangeSpec := { name := "fnTargetPathInjectiveAndReadsBack", fn := fun _ => fun
  | [d1, d2] => { results := [.lit (.bool false)], args := [d1, d2] }
  | _ => none }
def FnTargetPathInjectiveAndReadsBackWrongFormAsk : Prop := fnTargetPathInjectiveAndReadsBackRow.holds Tryf.pinned (OpenSpec.ofChange fnTargetPathInjectiveAndReadsBackWrong)

/-- 'zzlaws_pkg_api_b1.FnEntryPathNests': WHATEVER THE INPUT: true; the input reads as it did. -/
def fnEntryPathNestsSpec : ChangeSpec := { name := "fnEntryPathNests", fn := fun _ => fun
  | [d1, d2, d3, d4] => { results := [.lit (.bool true)], args := [d1, d2, d3, d4] }
  | _ => none }
def fnEntryPathNestsRow : OpenClaim := { program := "qxb6613650afmt", sum := "0976dbe7e57be06f2f62df699d3661b26e10ac72b5d8415906fc1bdc6d4cc56c", func := "example.com/fanfold/fanfold/zzlaws_pkg_api_b1.FnEntryPathNests", spec := "fnEntryPathNests", stops := ["fmt.Sprintf"], inPlace := ["fmt.Sprintf"], apart := false }
/-- NO THEOREM (fmt's text is open here; it may be false): for the released tool's asking of the row's closed facts alone. THE STATEMENT IS 'FnEntryPathNestsToldSaid' (Qxb6613650aFmtCards.lean). -/
def FnEntryPathNestsFormAsk : Prop := fnEntryPathNestsRow.holds Tryf.pinned (OpenSpec.ofChange fnEntryPathNestsSpec)

/-- ITS FALSE NEIGHBOUR: 'it returns false'. Refute it at one input. -/
def fnEntryPathNestsWrong : ChangeSpec := { name := "fnEntryPathNests", fn := fun _ => fun
  | [d1, d2, d3, d4] => { results := [.lit (.bool false)], args := [d1, d2, d3, d4] }
  | _ => none }
def FnEntryPathNestsWrongFormAsk : Prop := fnEntryPathNestsRow.holds Tryf.pinned (OpenSpec.ofChange fnEntryPathNestsWrong)

/-- 'zzlaws_pkg_api_b1.FnEntryPathInjectiveAndReadsBack': WHATEVER THE INPUT: true; the input reads as it did. -/
def fnEntryPathInjectiveAndReadsBackSpec : ChangeSpec := { name := "fnEntryPathInjectiveAndReadsBack", fn := fun _ => fun
  | [d1, d2, d3, d4] => { results := [.lit (.bool true)], args := [d1, d2, d3, d4] }
  | _ => none }
def fnEntryPathInjectiveAndReadsBackRow : OpenClaim := { program := "qxb6613650afmt", sum := "0976dbe7e57be06f2f62df699d3661b26e10ac72b5d8415906fc1bdc6d4cc56c", func := "example.com/fanfold/fanfold/zzlaws_pkg_api_b1.FnEntryPathInjectiveAndReadsBack", spec := "fnEntryPathInjectiveAndReadsBack", stops := ["fmt.Sprintf"], inPlace := ["fmt.Sprintf"], apart := false }
/-- NO THEOREM (fmt's text is open here; it may be false): for the released tool's asking of the row's closed facts alone. THE STATEMENT IS 'FnEntryPathInjectiveAndReadsBackToldSaid' (Qxb6613650aFmtCards.lean). -/
def FnEntryPathInjectiveAndReadsBackFormAsk : Prop := fnEntryPathInjectiveAndReadsBackRow.holds Tryf.pinned (OpenSpec.ofChange fnEntryPathInjectiveAndReadsBackSpec)

/-- ITS FALSE NEIGHBOUR: 'it returns false'. Refute it at one input. -/
def fnEntryPathInjectiveAndReadsBackWrong : ChangeSpec := { name := "fnEntryPathInjectiveAndReadsBack", fn := fun _ => fun
  | [d1, d2, d3, d4] => { results := [.lit (.bool false)], args := [d1, d2, d3, d4] }
  | _ => none }
def FnEntryPathInjectiveAndReadsBackWrongFormAsk : Prop := fnEntryPathInjectiveAndReadsBackRow.holds Tryf.pinned (OpenSpec.ofChange fnEntryPathInjectiveAndReadsBackWrong)

end Rows
end Go.Proofs.Qxb6613650aFmt
