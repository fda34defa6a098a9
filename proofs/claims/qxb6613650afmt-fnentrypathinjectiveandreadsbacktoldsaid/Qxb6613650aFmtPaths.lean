/-
  THE CLOSED FACTS over fmt.Sprintf at this dump, and the contracts of api.TargetPath (7) and api.EntryPath (8), the texts told.
-/
import Derived.Test.Qxb6613650aFmtRows
import Derived.Stop.CallBack
import Derived.Stop.IfaceNil
import GoSem.ClaimData
import Derived.WalkKit
import Derived.WalkSpells
import Derived.Stop.FmtTextWidths
import Derived.Stop.JoinedAt
import Derived.Stop.Texts
import Derived.Stop.JoinedTold
import Derived.Stop.FmtTextKit
namespace Go.Proofs.Qxb6613650aFmt.Paths
open Go.RowKit Go.Kit Go.Extern.Stop Go.Stop Go.Extern

theorem call14 (args : Array Value) (w : World) : (callFunc 14 args).run Tryf.prog w = ((FmtStop.sprintf #[9, 53] #[9] args).run Tryf.prog w).andThen fun v w' => .ok (.value v) w' :=
  run_callFunc_extern Tryf.func14 (by kernel_rfl) (by kernel_rfl) (by kernel_rfl) (by kernel_rfl) args w
theorem fmtGuard (name : String) (w : World) : (FmtStop.guard name).run Tryf.prog w = .ok () w := by kernel_rfl
-- TargetPath's format, one operand
theorem fmt0 : FmtStop.printed? ⟨#[115, 112, 101, 99, 46, 116, 97, 114, 103, 101, 116, 115, 91, 37, 100, 93]⟩ 1 = some [(0, 100, false)] := by kernel_rfl
theorem fmt0r (w : World) : (FmtDoors.printed ⟨#[115, 112, 101, 99, 46, 116, 97, 114, 103, 101, 116, 115, 91, 37, 100, 93]⟩ 1).run Tryf.prog w = .ok [(0, 100, false)] w := by kernel_rfl
-- EntryPath's format, three operands
theorem fmt1 : FmtStop.printed? ⟨#[37, 115, 46, 37, 115, 91, 37, 100, 93]⟩ 3 = some [(0, 115, false), (1, 115, false), (2, 100, false)] := by kernel_rfl
theorem fmt1r (w : World) : (FmtDoors.printed ⟨#[37, 115, 46, 37, 115, 91, 37, 100, 93]⟩ 3).run Tryf.prog w = .ok [(0, 115, false), (1, 115, false), (2, 100, false)] w := by kernel_rfl
def shape3 : List UInt8 := [5, 3, 0, 0, 0, 0, 0, 0, 0, 105, 110, 116]
theorem op3_100 (name : String) (x : Int) (w : World) : (FmtStop.operand name false 100 false (.iface 3 (.int .i64 x))).run Tryf.prog w = .ok (shape3, Go.Extern.Stop.digits 8 (x % 2 ^ 64).toNat) w := by kernel_rfl
def shape9 : List UInt8 := [12, 6, 0, 0, 0, 0, 0, 0, 0, 115, 116, 114, 105, 110, 103]
theorem op9_115 (name : String) (x : ByteArray) (w : World) : (FmtStop.operand name false 115 false (.iface 9 (.string x))).run Tryf.prog w = .ok (shape9, FmtStop.pack x.data.toList) w := by kernel_rfl

attribute [local go_sem] call14 fmtGuard fmt0 fmt0r fmt1 fmt1r op3_100 op9_115

/-- What fmt is asked by TargetPath. -/
def rdT (i : Int) : List (List UInt8) := [[115, 112, 101, 99, 46, 116, 97, 114, 103, 101, 116, 115, 91, 37, 100, 93], shape3, digits 8 (i % 18446744073709551616).toNat]
/-- What fmt is asked by EntryPath. -/
def rdE (a b : List UInt8) (i : Int) : List (List UInt8) := [[37, 115, 46, 37, 115, 91, 37, 100, 93], shape9, FmtStop.pack a, shape9, FmtStop.pack b, shape3, digits 8 (i % 18446744073709551616).toNat]

set_option maxHeartbeats 400000 in
theorem target_open (F : Interp) (i : Int) (w : World) (hF : F.answers w.tape) :
    Calls Tryf.prog 7 #[.int .i64 i] w fun e w' => e = .returned (.string (FmtStop.textOf (F "fmt.Sprintf" (rdT i) 0))) ∧
      w' = (w.alloc (.cells #[.iface 3 (.int .i64 i)] 20)).drew := by
  have hF' := answers_open hF
  go_enter Tryf.func7, Tryf.ntmps7
  go_wp2
  go_ret
  exact ⟨rfl, rfl⟩

set_option maxHeartbeats 400000 in
theorem entry_open (F : Interp) (a b : ByteArray) (i : Int) (w : World) (hF : F.answers w.tape) :
    Calls Tryf.prog 8 #[.string a, .string b, .int .i64 i] w fun e w' => e = .returned (.string (FmtStop.textOf (F "fmt.Sprintf" (rdE a.data.toList b.data.toList i) 0))) ∧
      w' = (w.alloc (.cells #[.iface 9 (.string a), .iface 9 (.string b), .iface 3 (.int .i64 i)] 20)).drew := by
  have hF' := answers_open hF
  go_enter Tryf.func8, Tryf.ntmps8
  go_wp2
  go_ret
  exact ⟨rfl, rfl⟩

/-! The texts, told. -/
def txT (i : Int) : List UInt8 := [115, 112, 101, 99, 46, 116, 97, 114, 103, 101, 116, 115, 91] ++ Lib.itoa i ++ [93]
def txE (a b : List UInt8) (i : Int) : List UInt8 := a ++ [46] ++ b ++ [91] ++ Lib.itoa i ++ [93]

theorem parseT : (FmtText.parse [115, 112, 101, 99, 46, 116, 97, 114, 103, 101, 116, 115, 91, 37, 100, 93]).map FmtText.glue = some [.lit [115, 112, 101, 99, 46, 116, 97, 114, 103, 101, 116, 115, 91], .verb {} 100, .lit [93]] := by rfl
theorem parseE : (FmtText.parse [37, 115, 46, 37, 115, 91, 37, 100, 93]).map FmtText.glue = some [.verb {} 115, .lit [46], .verb {} 115, .lit [91], .verb {} 100, .lit [93]] := by rfl

theorem textT (i : Int) (hw : (Lit.int .i64 i).wf = true) : FmtText.text "fmt.Sprintf" (rdT i) = some (txT i) := by
  have hi := FmtText.operand_int_at (sh := shape3) (k := .i64) rfl rfl i hw
  rw [rdT, FmtText.text_sprintf_glued parseT (FmtText.operands_cons hi FmtText.operands_nil)]
  simp [FmtText.render, FmtText.printArg_d _ _ hw, txT]
theorem textE (a b : List UInt8) (i : Int) (ha : a.length < 2 ^ 64) (hb : b.length < 2 ^ 64) (hw : (Lit.int .i64 i).wf = true) : FmtText.text "fmt.Sprintf" (rdE a b i) = some (txE a b i) := by
  have hi := FmtText.operand_int_at (sh := shape3) (k := .i64) rfl rfl i hw
  have h1 := FmtText.operand_str_at (sh := shape9) rfl rfl a ha
  have h2 := FmtText.operand_str_at (sh := shape9) rfl rfl b hb
  rw [rdE, FmtText.text_sprintf_glued parseE (FmtText.operands_cons h1 (FmtText.operands_cons h2 (FmtText.operands_cons hi FmtText.operands_nil)))]
  simp [FmtText.render, FmtText.printArg_d _ _ hw, FmtText.printArg_s_str, txE]

/-- A string of given bytes. -/
def str (l : List UInt8) : ByteArray := ⟨l.toArray⟩
theorem str_list (l : List UInt8) : (str l).data.toList = l := rfl
theorem str_size (l : List UInt8) : (str l).size = l.length := rfl
theorem eq_str {x : ByteArray} {l : List UInt8} (h : x.data.toList = l) : x = str l := by
  cases x with | mk d => subst h; simp [str]

theorem told_str (F : Interp) {reading : List (List UInt8)} {s : List UInt8} (h : FmtText.text "fmt.Sprintf" reading = some s) (hl : s.length < 2 ^ 63) :
    FmtStop.textOf (F.told "fmt.Sprintf" reading 0) = str s :=
  eq_str (by rw [textOf_list, told_string F h hl])

theorem target_told (F : Interp) (i : Int) (w : World) (hF : F.told.answers w.tape) (hw : (Lit.int .i64 i).wf = true) :
    Calls Tryf.prog 7 #[.int .i64 i] w fun e w' => e = .returned (.string (str (txT i))) ∧ Grown w w' ∧ w'.tape = w.tape := by
  refine (target_open F.told i w hF).mono fun e w' ⟨he, hw'⟩ => ?_
  have hl := FmtText.itoa_length_le hw
  rw [told_str F (textT i hw) (by simp [txT]; omega)] at he
  subst hw'
  exact ⟨he, ((Grown.refl _).alloc _ _).drew, rfl⟩

theorem entry_told (F : Interp) (a b : ByteArray) (i : Int) (w : World) (hF : F.told.answers w.tape) (ha : a.size < 2 ^ 48) (hb : b.size < 2 ^ 48) (hw : (Lit.int .i64 i).wf = true) :
    Calls Tryf.prog 8 #[.string a, .string b, .int .i64 i] w fun e w' => e = .returned (.string (str (txE a.data.toList b.data.toList i))) ∧ Grown w w' ∧ w'.tape = w.tape := by
  refine (entry_open F.told a b i w hF).mono fun e w' ⟨he, hw'⟩ => ?_
  have hl := FmtText.itoa_length_le hw
  have ea : a.data.toList.length = a.size := Array.length_toList
  have eb : b.data.toList.length = b.size := Array.length_toList
  rw [told_str F (textE _ _ i (by omega) (by omega) hw) (by simp only [txE, List.length_append, List.length_cons, List.length_nil]; omega)] at he
  subst hw'
  exact ⟨he, ((Grown.refl _).alloc _ _).drew, rfl⟩

end Go.Proofs.Qxb6613650aFmt.Paths
