/-
  FnTargetPathIsSpecTargetsEntry (3): the walk.
-/
import Derived.Test.Qxb6613650aFmtItoa
namespace Go.Proofs.Qxb6613650aFmt.TargetIs
open Go.RowKit Go.Kit Go.Extern.Stop Go.Stop Go.Extern Go.Proofs.Qxb6613650aFmt.Paths Go.Proofs.Qxb6613650aFmt.Itoa

theorem grown_trans {a b c : World} (h : Grown a b) (k : Grown b c) : Grown a c :=
  ⟨World.keptBut_trans h.1 k.1, fun x => (k.2.1 x).trans (h.2.1 x), Nat.le_trans h.2.2 k.2.2⟩

theorem entry_spec (F : Interp) (i : Int) (w : World) (hF : F.told.answers w.tape) (hw : (Lit.int .i64 i).wf = true) :
    Calls Tryf.prog 8 #[.string ⟨#[115, 112, 101, 99]⟩, .string ⟨#[116, 97, 114, 103, 101, 116, 115]⟩, .int .i64 i] w fun e w' => e = .returned (.string (str (txT i))) ∧ Grown w w' ∧ w'.tape = w.tape :=
  entry_told F ⟨#[115, 112, 101, 99]⟩ ⟨#[116, 97, 114, 103, 101, 116, 115]⟩ i w hF (by decide) (by decide) hw

theorem str_append (l m : List UInt8) : str l ++ str m = str (l ++ m) := by
  refine eq_str ?_
  rw [ByteArray.data_append, Array.toList_append]; rfl
theorem joined (i : Int) : (⟨#[115, 112, 101, 99, 46, 116, 97, 114, 103, 101, 116, 115, 91]⟩ : ByteArray) ++ str (Lib.itoa i) ++ ⟨#[93]⟩ = str (txT i) := by
  show str [115, 112, 101, 99, 46, 116, 97, 114, 103, 101, 116, 115, 91] ++ str (Lib.itoa i) ++ str [93] = _
  rw [str_append, str_append]; rfl

set_option maxHeartbeats 400000 in
theorem walk (F : Interp) (i : Int) (w : World) (hF : F.told.answers w.tape) (hw : (Lit.int .i64 i).wf = true) :
    Calls Tryf.prog 3 #[.int .i64 i] w fun e w' => e = .returned (.bool true) ∧ Grown w w' := by
  have hl := FmtText.itoa_length_le hw
  have hs : (str (Lib.itoa i)).size ≤ 21 := hl
  have hs1 : ¬ 9223372036854775807 < 13 + (str (Lib.itoa i)).size := by omega
  have hs2 : ¬ 9223372036854775807 < 13 + (str (Lib.itoa i)).size + 1 := by omega
  have hj := joined i
  clear hl
  go_enter Tryf.func3, Tryf.ntmps3
  go_wp2_with fail
  refine (target_told F i _ hF hw).mono ?_
  rintro e w1 ⟨rfl, hg1, ht1⟩
  go_wp2_with fail
  refine (entry_spec F i _ (by rw [ht1]; exact hF) hw).mono ?_
  rintro e w2 ⟨rfl, hg2, ht2⟩
  go_wp2_with fail
  refine (itoa_any i _ hw).mono ?_
  rintro e w3 ⟨rfl, hg3, ht3⟩
  go_wp2_with fail
  go_ret
  exact ⟨rfl, grown_trans (grown_trans hg1 hg2) hg3⟩
end Go.Proofs.Qxb6613650aFmt.TargetIs
