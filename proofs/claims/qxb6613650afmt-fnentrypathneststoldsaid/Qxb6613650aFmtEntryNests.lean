/-
  FnEntryPathNests (5): the walk.
-/
import Derived.Test.Qxb6613650aFmtFit
namespace Go.Proofs.Qxb6613650aFmt.EntryNests
open Go.RowKit Go.Kit Go.Extern.Stop Go.Stop Go.Extern Go.Proofs.Qxb6613650aFmt.Paths Go.Proofs.Qxb6613650aFmt.Itoa Go.Proofs.Qxb6613650aFmt.TargetIs Go.Proofs.Qxb6613650aFmt.Fit

theorem to_str (a : ByteArray) : a = str a.data.toList := eq_str rfl

/-- The inner path, as the law writes it. -/
theorem inner_eq (b e : ByteArray) (j : Int) : b ++ ⟨#[46]⟩ ++ e ++ ⟨#[91]⟩ ++ str (Lib.itoa j) ++ ⟨#[93]⟩ = str (txE b.data.toList e.data.toList j) := by
  refine eq_str ?_
  simp only [ByteArray.data_append, Array.toList_append, str_list, txE]
/-- The outer path, as the law writes it. -/
theorem outer_eq (a b e : ByteArray) (j : Int) : str (txE (a ++ ⟨#[46]⟩ ++ b).data.toList e.data.toList j) = a ++ ⟨#[46]⟩ ++ str (txE b.data.toList e.data.toList j) := by
  refine (eq_str ?_).symm
  simp only [ByteArray.data_append, Array.toList_append, str_list, txE, List.append_assoc]

theorem outer_size (a b : ByteArray) : (a ++ ⟨#[46]⟩ ++ b).size = a.size + 1 + b.size := by rw [ByteArray.size_append, ByteArray.size_append]; rfl

theorem outer_told (F : Interp) (a b e : ByteArray) (j : Int) (w : World) (hF : F.told.answers w.tape) (h : a.size + b.size + e.size ≤ 1048576) (hw : (Lit.int .i64 j).wf = true) :
    Calls Tryf.prog 8 #[.string (a ++ ⟨#[46]⟩ ++ b), .string e, .int .i64 j] w fun r w' => r = .returned (.string (a ++ ⟨#[46]⟩ ++ str (txE b.data.toList e.data.toList j))) ∧ Grown w w' ∧ w'.tape = w.tape := by
  have h1 : (a ++ ⟨#[46]⟩ ++ b).size < 2 ^ 48 := by
    rw [outer_size]; omega
  have h2 : e.size < 2 ^ 48 := by
    clear h1; omega
  have h3 := entry_told F (a ++ ⟨#[46]⟩ ++ b) e j w hF h1 h2 hw
  have h4 := outer_eq a b e j
  refine h3.mono ?_
  rintro r w' ⟨hr, hg, ht⟩
  refine ⟨?_, hg, ht⟩
  rw [hr, h4]

set_option maxHeartbeats 400000 in
theorem walk_large (a b e : ByteArray) (j : Int) (w : World) (h : ¬ (a.size : Int) + b.size + e.size ≤ 1048576) :
    Calls Tryf.prog 5 #[.string a, .string b, .string e, .int .i64 j] w fun e w' => e = .returned (.bool true) ∧ Grown w w' := by
  go_enter Tryf.func5, Tryf.ntmps5
  go_wp2_with fail
  refine (zz11_large _ _ _ _ _ (by omega)).mono ?_
  rintro e w' ⟨rfl, rfl⟩
  go_wp2_with fail
  go_ret
  exact ⟨rfl, Grown.refl _⟩

set_option maxHeartbeats 400000 in
theorem walk_small (F : Interp) (a b e : ByteArray) (j : Int) (w : World) (hF : F.told.answers w.tape) (h : (a.size : Int) + b.size + e.size ≤ 1048576) (hw : (Lit.int .i64 j).wf = true) :
    Calls Tryf.prog 5 #[.string a, .string b, .string e, .int .i64 j] w fun e w' => e = .returned (.bool true) ∧ Grown w w' := by
  have hl := FmtText.itoa_length_le hw
  have hsI : (str (Lib.itoa j)).size ≤ 21 := hl
  have hsX : (str (txE b.data.toList e.data.toList j)).size ≤ 2000000 := by
    rw [← inner_eq]; simp only [ByteArray.size_append]
    have e1 : (⟨#[46]⟩ : ByteArray).size = 1 := rfl
    have e2 : (⟨#[91]⟩ : ByteArray).size = 1 := rfl
    have e3 : (⟨#[93]⟩ : ByteArray).size = 1 := rfl
    omega
  have hX := inner_eq b e j
  have k1 : a.size ≤ 1048576 := by omega
  have k2 : b.size ≤ 1048576 := by omega
  have k3 : e.size ≤ 1048576 := by omega
  clear hl
  go_enter Tryf.func5, Tryf.ntmps5
  go_wp2_with fail
  refine (zz11_small _ _ _ _ _ h).mono ?_
  rintro r w0 ⟨rfl, rfl⟩
  go_wp2_with fail
  refine (fit12 _ _ _ _ h).mono ?_
  rintro r w0 ⟨rfl, rfl⟩
  go_wp2_with fail
  refine (entry_told F b e j _ hF (by omega) (by omega) hw).mono ?_
  rintro r w1 ⟨rfl, hg1, ht1⟩
  go_wp2_with fail
  refine (outer_told F a b e j _ (by rw [ht1]; exact hF) (by omega) hw).mono ?_
  rintro r w2 ⟨rfl, hg2, ht2⟩
  go_wp2_with fail
  refine (itoa_any j _ hw).mono ?_
  rintro r w3 ⟨rfl, hg3, ht3⟩
  go_wp2_with fail
  go_ret
  exact ⟨rfl, grown_trans (grown_trans hg1 hg2) hg3⟩

theorem walk (F : Interp) (a b e : ByteArray) (j : Int) (w : World) (hF : F.told.answers w.tape) (_ : a.size ≤ maxLen) (_ : b.size ≤ maxLen) (_ : e.size ≤ maxLen) (hw : (Lit.int .i64 j).wf = true) :
    Calls Tryf.prog 5 #[.string a, .string b, .string e, .int .i64 j] w fun e w' => e = .returned (.bool true) ∧ Grown w w' := by
  by_cases h : (a.size : Int) + b.size + e.size ≤ 1048576
  · exact walk_small F a b e j w hF h hw
  · exact walk_large a b e j w h
end Go.Proofs.Qxb6613650aFmt.EntryNests
