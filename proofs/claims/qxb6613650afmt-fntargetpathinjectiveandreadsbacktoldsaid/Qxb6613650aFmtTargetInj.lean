/-
  FnTargetPathInjectiveAndReadsBack (4): the walk.
-/
import Derived.Test.Qxb6613650aFmtReadsBack
namespace Go.Proofs.Qxb6613650aFmt.TargetInj
open Go.RowKit Go.Kit Go.Extern.Stop Go.Stop Go.Extern Go.Proofs.Qxb6613650aFmt.Paths Go.Proofs.Qxb6613650aFmt.ReadsBack Go.Proofs.Qxb6613650aFmt.ReadsPlain Go.Proofs.Qxb6613650aFmt.TargetIs

theorem boxed_inj {l : List UInt8} {i j : Int} (h : boxed l i = boxed l j) : i = j := by
  simp only [boxed, List.append_assoc] at h
  have h1 := List.append_cancel_left (List.append_cancel_left h)
  exact itoa_inj i j (List.append_cancel_right h1)

/-- Bytes apart: the walk's test on two strings. -/
theorem test_ne {a b : ByteArray} (h : a ≠ b) : (a.toList == b.toList) = false := by
  rw [beq_eq_false_iff_ne]
  intro e
  rw [ByteArray.toList_eq, ByteArray.toList_eq] at e
  exact h (Go.WideShapes.bytes_inj e)

theorem txT_boxed (i : Int) : txT i = boxed [115, 112, 101, 99, 46, 116, 97, 114, 103, 101, 116, 115] i := rfl

theorem str_inj {l m : List UInt8} (h : str l = str m) : l = m := by
  rw [← str_list l, h, str_list]

theorem reads_spec (i : Int) (w : World) (hw : (Lit.int .i64 i).wf = true) :
    Calls Tryf.prog 10 #[.string (str (txT i)), .string ⟨#[115, 112, 101, 99, 46, 116, 97, 114, 103, 101, 116, 115]⟩, .int .i64 i] w fun e w' => e = .returned (.bool true) ∧ w' = w :=
  reads_any ⟨#[115, 112, 101, 99, 46, 116, 97, 114, 103, 101, 116, 115]⟩ i w (by decide) hw

set_option maxHeartbeats 400000 in
theorem walk_eq (F : Interp) (i : Int) (w : World) (hF : F.told.answers w.tape) (hw : (Lit.int .i64 i).wf = true) :
    Calls Tryf.prog 4 #[.int .i64 i, .int .i64 i] w fun e w' => e = .returned (.bool true) ∧ Grown w w' := by
  go_enter Tryf.func4, Tryf.ntmps4
  go_wp2_with fail
  refine (target_told F i _ hF hw).mono ?_
  rintro e w1 ⟨rfl, hg1, ht1⟩
  go_wp2_with fail
  refine (target_told F i _ (by rw [ht1]; exact hF) hw).mono ?_
  rintro e w2 ⟨rfl, hg2, ht2⟩
  go_wp2_with fail
  refine (reads_spec i _ hw).mono ?_
  rintro e w3 ⟨rfl, rfl⟩
  go_wp2_with fail
  refine (reads_spec i _ hw).mono ?_
  rintro e w4 ⟨rfl, rfl⟩
  go_wp2_with fail
  go_ret
  exact ⟨rfl, grown_trans hg1 hg2⟩

set_option maxHeartbeats 400000 in
theorem walk_ne (F : Interp) (i j : Int) (w : World) (hF : F.told.answers w.tape) (hw : (Lit.int .i64 i).wf = true) (hw2 : (Lit.int .i64 j).wf = true)
    (hij : (i == j) = false) (hpq : ((str (txT i)).toList == (str (txT j)).toList) = false) :
    Calls Tryf.prog 4 #[.int .i64 i, .int .i64 j] w fun e w' => e = .returned (.bool true) ∧ Grown w w' := by
  go_enter Tryf.func4, Tryf.ntmps4
  go_wp2_with fail
  refine (target_told F i _ hF hw).mono ?_
  rintro e w1 ⟨rfl, hg1, ht1⟩
  go_wp2_with fail
  refine (target_told F j _ (by rw [ht1]; exact hF) hw2).mono ?_
  rintro e w2 ⟨rfl, hg2, ht2⟩
  go_wp2_with fail
  refine (reads_spec i _ hw).mono ?_
  rintro e w3 ⟨rfl, rfl⟩
  go_wp2_with fail
  refine (reads_spec j _ hw2).mono ?_
  rintro e w4 ⟨rfl, rfl⟩
  go_wp2_with fail
  go_ret
  exact ⟨rfl, grown_trans hg1 hg2⟩

theorem walk (F : Interp) (i j : Int) (w : World) (hF : F.told.answers w.tape) (hw : (Lit.int .i64 i).wf = true) (hw2 : (Lit.int .i64 j).wf = true) :
    Calls Tryf.prog 4 #[.int .i64 i, .int .i64 j] w fun e w' => e = .returned (.bool true) ∧ Grown w w' := by
  by_cases h : i = j
  · subst h; exact walk_eq F i w hF hw
  · exact walk_ne F i j w hF hw hw2 (by rw [beq_eq_false_iff_ne]; exact h) (test_ne fun e => h (boxed_inj (l := [115, 112, 101, 99, 46, 116, 97, 114, 103, 101, 116, 115]) (str_inj e)))
end Go.Proofs.Qxb6613650aFmt.TargetInj
