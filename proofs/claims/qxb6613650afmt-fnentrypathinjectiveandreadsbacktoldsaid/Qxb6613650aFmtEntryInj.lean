/-
  FnEntryPathInjectiveAndReadsBack (6): the walk.
-/
import Derived.Test.Qxb6613650aFmtFit
import Derived.Test.Qxb6613650aFmtTargetInj
namespace Go.Proofs.Qxb6613650aFmt.EntryInj
open Go.RowKit Go.Kit Go.Extern.Stop Go.Stop Go.Extern Go.Proofs.Qxb6613650aFmt.Paths Go.Proofs.Qxb6613650aFmt.ReadsBack Go.Proofs.Qxb6613650aFmt.TargetInj Go.Proofs.Qxb6613650aFmt.TargetIs Go.Proofs.Qxb6613650aFmt.Fit

theorem head_size (a b : ByteArray) : (a ++ ⟨#[46]⟩ ++ b).size = a.size + 1 + b.size := by rw [ByteArray.size_append, ByteArray.size_append]; rfl

theorem fit_two (a b : ByteArray) (w : World) (h : (a.size : Int) + b.size ≤ 1048576) :
    Calls Tryf.prog 12 #[.string a, .string b, .string ⟨#[]⟩] w fun e w' => e = .returned (.bool true) ∧ w' = w :=
  fit12 a b ⟨#[]⟩ w (by show (a.size : Int) + b.size + (0 : Nat) ≤ 1048576; omega)

theorem boxed_eq (a b : ByteArray) (i : Int) : boxed (a ++ ⟨#[46]⟩ ++ b).data.toList i = txE a.data.toList b.data.toList i := by
  simp only [ByteArray.data_append, Array.toList_append, boxed, txE]

theorem reads_two (a b : ByteArray) (i : Int) (w : World) (h : a.size + b.size ≤ 1048576) (hw : (Lit.int .i64 i).wf = true) :
    Calls Tryf.prog 10 #[.string (str (txE a.data.toList b.data.toList i)), .string (a ++ ⟨#[46]⟩ ++ b), .int .i64 i] w fun e w' => e = .returned (.bool true) ∧ w' = w := by
  have h1 : (a ++ ⟨#[46]⟩ ++ b).size ≤ 1099511627776 := by
    rw [head_size]; omega
  have h2 := reads_any (a ++ ⟨#[46]⟩ ++ b) i w h1 hw
  rw [boxed_eq] at h2
  exact h2

theorem txE_inj {l m : List UInt8} {i j : Int} (h : txE l m i = txE l m j) : i = j := boxed_inj (l := l ++ [46] ++ m) h

set_option maxHeartbeats 400000 in
theorem walk_large (a b : ByteArray) (i j : Int) (w : World) (h : ¬ (a.size : Int) + b.size ≤ 1048576) :
    Calls Tryf.prog 6 #[.string a, .string b, .int .i64 i, .int .i64 j] w fun e w' => e = .returned (.bool true) ∧ Grown w w' := by
  go_enter Tryf.func6, Tryf.ntmps6
  go_wp2_with fail
  refine (zz13_large _ _ _ _ _ (by omega)).mono ?_
  rintro e w' ⟨rfl, rfl⟩
  go_wp2_with fail
  go_ret
  exact ⟨rfl, Grown.refl _⟩

set_option maxHeartbeats 400000 in
theorem walk_eq (F : Interp) (a b : ByteArray) (i : Int) (w : World) (hF : F.told.answers w.tape) (h : (a.size : Int) + b.size ≤ 1048576) (hw : (Lit.int .i64 i).wf = true) :
    Calls Tryf.prog 6 #[.string a, .string b, .int .i64 i, .int .i64 i] w fun e w' => e = .returned (.bool true) ∧ Grown w w' := by
  have k1 : a.size ≤ 1048576 := by omega
  have k2 : b.size ≤ 1048576 := by omega
  go_enter Tryf.func6, Tryf.ntmps6
  go_wp2_with fail
  refine (zz13_small _ _ _ _ _ h).mono ?_
  rintro e w0 ⟨rfl, rfl⟩
  go_wp2_with fail
  refine (fit_two _ _ _ h).mono ?_
  rintro e w0 ⟨rfl, rfl⟩
  go_wp2_with fail
  refine (entry_told F a b i _ hF (by omega) (by omega) hw).mono ?_
  rintro e w1 ⟨rfl, hg1, ht1⟩
  go_wp2_with fail
  refine (entry_told F a b i _ (by rw [ht1]; exact hF) (by omega) (by omega) hw).mono ?_
  rintro e w2 ⟨rfl, hg2, ht2⟩
  go_wp2_with fail
  refine (reads_two a b i _ (by omega) hw).mono ?_
  rintro e w3 ⟨rfl, rfl⟩
  go_wp2_with fail
  refine (reads_two a b i _ (by omega) hw).mono ?_
  rintro e w4 ⟨rfl, rfl⟩
  go_wp2_with fail
  go_ret
  exact ⟨rfl, grown_trans hg1 hg2⟩

set_option maxHeartbeats 400000 in
theorem walk_ne (F : Interp) (a b : ByteArray) (i j : Int) (w : World) (hF : F.told.answers w.tape) (h : (a.size : Int) + b.size ≤ 1048576) (hw : (Lit.int .i64 i).wf = true) (hw2 : (Lit.int .i64 j).wf = true)
    (hij : (i == j) = false) (hpq : ((str (txE a.data.toList b.data.toList i)).toList == (str (txE a.data.toList b.data.toList j)).toList) = false) :
    Calls Tryf.prog 6 #[.string a, .string b, .int .i64 i, .int .i64 j] w fun e w' => e = .returned (.bool true) ∧ Grown w w' := by
  have k1 : a.size ≤ 1048576 := by omega
  have k2 : b.size ≤ 1048576 := by omega
  go_enter Tryf.func6, Tryf.ntmps6
  go_wp2_with fail
  refine (zz13_small _ _ _ _ _ h).mono ?_
  rintro e w0 ⟨rfl, rfl⟩
  go_wp2_with fail
  refine (fit_two _ _ _ h).mono ?_
  rintro e w0 ⟨rfl, rfl⟩
  go_wp2_with fail
  refine (entry_told F a b i _ hF (by omega) (by omega) hw).mono ?_
  rintro e w1 ⟨rfl, hg1, ht1⟩
  go_wp2_with fail
  refine (entry_told F a b j _ (by rw [ht1]; exact hF) (by omega) (by omega) hw2).mono ?_
  rintro e w2 ⟨rfl, hg2, ht2⟩
  go_wp2_with fail
  refine (reads_two a b i _ (by omega) hw).mono ?_
  rintro e w3 ⟨rfl, rfl⟩
  go_wp2_with fail
  refine (reads_two a b j _ (by omega) hw2).mono ?_
  rintro e w4 ⟨rfl, rfl⟩
  go_wp2_with fail
  go_ret
  exact ⟨rfl, grown_trans hg1 hg2⟩

theorem walk (F : Interp) (a b : ByteArray) (i j : Int) (w : World) (hF : F.told.answers w.tape) (_ : a.size ≤ maxLen) (_ : b.size ≤ maxLen) (hw : (Lit.int .i64 i).wf = true) (hw2 : (Lit.int .i64 j).wf = true) :
    Calls Tryf.prog 6 #[.string a, .string b, .int .i64 i, .int .i64 j] w fun e w' => e = .returned (.bool true) ∧ Grown w w' := by
  by_cases h : (a.size : Int) + b.size ≤ 1048576
  · by_cases hij : i = j
    · subst hij; exact walk_eq F a b i w hF h hw
    · exact walk_ne F a b i j w hF h hw hw2 (by rw [beq_eq_false_iff_ne]; exact hij) (test_ne fun e => hij (txE_inj (str_inj e)))
  · exact walk_large a b i j w h
end Go.Proofs.Qxb6613650aFmt.EntryInj
