/-
  FnWrittenDropsInSteps: the walk by contracts, then the template's row step.
-/
import Derived.Test.Qxb6608858aRows
import Derived.Test.Qxb6608858aBase
import Derived.WalkKit
import Derived.ProofKit
import Derived.OpenShut
import Derived.ShutString
namespace Go.Proofs.Qxb6608858a.fnWrittenDropsInSteps
open Go.ChangeShapes Go.WideShapes Go.ChangeAt Go.RowKit
open Go.ChangeMaps (open_string shut_string)
open Go.Proofs.Qxb6608858a.Base
set_option linter.unusedVariables false      -- a walk need not use every 'w<i>' (that an integer argument fits its kind)

theorem own : ownKnob Try.prog.godebug = none := by kernel_rfl

/-! ### STEP 1: THE WALK: the Go text returns true.  -/
set_option maxHeartbeats 400000 in
theorem walk_large (a0 : ByteArray) (a1 : Int) (a2 : Int) (a3 : Int) (w : World) (hs : 1048576 < (a0.size : Int)) :
    Calls Try.prog 6 #[.string a0, .int .i64 a1, .int .u8 a2, .int .i64 a3] w fun e w' => e = .returned (.bool true) ∧ Grown w w' := by
  go_enter Try.func6, Try.ntmps6
  go_wp2_with (go_at_call 18; refine (zz18_large _ _ _ _ _ hs).mono ?_; rintro e w' ⟨rfl, rfl⟩)
  go_ret
  exact ⟨rfl, Grown.refl _⟩

set_option maxHeartbeats 400000 in
theorem walk_a (a0 : ByteArray) (a1 : Int) (a2 : Int) (a3 : Int) (w : World) (hs : (a0.size : Int) ≤ 1048576) (h : a1 < 0) :
    Calls Try.prog 6 #[.string a0, .int .i64 a1, .int .u8 a2, .int .i64 a3] w fun e w' => e = .returned (.bool true) ∧ Grown w w' := by
  go_enter Try.func6, Try.ntmps6
  go_wp2_with (go_at_call 18; refine (zz18_small _ _ _ _ _ hs).mono ?_; rintro e w' ⟨rfl, rfl⟩)
  go_ret
  exact ⟨rfl, Grown.refl _⟩

set_option maxHeartbeats 400000 in
theorem walk_b (a0 : ByteArray) (a1 : Int) (a2 : Int) (a3 : Int) (w : World) (hs : (a0.size : Int) ≤ 1048576) (h0 : 0 ≤ a1) (h : (a0.size : Int) < a1) :
    Calls Try.prog 6 #[.string a0, .int .i64 a1, .int .u8 a2, .int .i64 a3] w fun e w' => e = .returned (.bool true) ∧ Grown w w' := by
  go_enter Try.func6, Try.ntmps6
  go_wp2_with (go_at_call 18; refine (zz18_small _ _ _ _ _ hs).mono ?_; rintro e w' ⟨rfl, rfl⟩)
  go_ret
  exact ⟨rfl, Grown.refl _⟩

set_option maxHeartbeats 400000 in
theorem walk_c (a0 : ByteArray) (a1 : Int) (a2 : Int) (a3 : Int) (w : World) (hs : (a0.size : Int) ≤ 1048576) (h0 : 0 ≤ a1) (h1 : a1 ≤ a0.size) (h : a3 < 0) :
    Calls Try.prog 6 #[.string a0, .int .i64 a1, .int .u8 a2, .int .i64 a3] w fun e w' => e = .returned (.bool true) ∧ Grown w w' := by
  go_enter Try.func6, Try.ntmps6
  go_wp2_with (go_at_call 18; refine (zz18_small _ _ _ _ _ hs).mono ?_; rintro e w' ⟨rfl, rfl⟩)
  go_ret
  exact ⟨rfl, Grown.refl _⟩

set_option maxHeartbeats 400000 in
theorem walk_d (a0 : ByteArray) (a1 : Int) (a2 : Int) (a3 : Int) (w : World) (hs : (a0.size : Int) ≤ 1048576) (h0 : 0 ≤ a1) (h1 : a1 ≤ a0.size) (h2 : 0 ≤ a3) (h : (a0.size : Int) - a1 < a3) :
    Calls Try.prog 6 #[.string a0, .int .i64 a1, .int .u8 a2, .int .i64 a3] w fun e w' => e = .returned (.bool true) ∧ Grown w w' := by
  go_enter Try.func6, Try.ntmps6
  go_wp2_with (go_at_call 18; refine (zz18_small _ _ _ _ _ hs).mono ?_; rintro e w' ⟨rfl, rfl⟩)
  go_ret
  exact ⟨rfl, Grown.refl _⟩

set_option maxHeartbeats 400000 in
theorem walk_main (a0 : ByteArray) (a1 : Int) (a2 : Int) (a3 : Int) (w : World) (hs : (a0.size : Int) ≤ 1048576) (h0 : 0 ≤ a1) (h1 : a1 ≤ a0.size) (h2 : 0 ≤ a3) (h3 : a3 ≤ a0.size - a1) :
    Calls Try.prog 6 #[.string a0, .int .i64 a1, .int .u8 a2, .int .i64 a3] w fun e w' => e = .returned (.bool true) ∧ Grown w w' := by
  have h4 : a1 + a3 ≤ a0.size := by omega
  have s1 := cut_size a0 a1 h0 h1
  have s3 : ((cut a0 (a1 + a3)).size : Int) = a0.size - a1 - a3 := by rw [cut_size a0 (a1 + a3) (by omega) h4]; omega
  have c1 := cut_cut a0 a1 a3 h0 h1 h2 h3
  go_enter Try.func6, Try.ntmps6
  go_wp2_with (first | (go_at_call 18; refine (zz18_small _ _ _ _ _ hs).mono ?_; rintro e w' ⟨rfl, rfl⟩) | (go_at_call 17; refine (mk17 _ _ _ _).mono ?_; rintro e w' ⟨rfl, hg⟩) | (go_at_call 16; refine (written16 _ _ _ _ (by omega) (by omega) (by omega)).mono ?_; rintro e w' ⟨rfl, hg⟩))
  go_ret
  exact ⟨rfl, by repeat (first | exact Grown.refl _ | refine grown_trans ?_ (by assumption))⟩

theorem walk (a0 : ByteArray) (a1 : Int) (a2 : Int) (a3 : Int) (w0 : a0.size ≤ maxLen) (w1 : (Lit.int .i64 a1).wf = true) (w2 : (Lit.int .u8 a2).wf = true) (w3 : (Lit.int .i64 a3).wf = true) (w : World) :
    Calls Try.prog 6 #[.string a0, .int .i64 a1, .int .u8 a2, .int .i64 a3] w fun e w' => e = .returned (.bool true) ∧ Grown w w' := by
  by_cases hs : (a0.size : Int) ≤ 1048576
  · by_cases h0 : 0 ≤ a1
    · by_cases h1 : a1 ≤ a0.size
      · by_cases h2 : 0 ≤ a3
        · by_cases h3 : a3 ≤ a0.size - a1
          · exact walk_main a0 a1 a2 a3 w hs h0 h1 h2 h3
          · exact walk_d a0 a1 a2 a3 w hs h0 h1 h2 (by omega)
        · exact walk_c a0 a1 a2 a3 w hs h0 h1 (by omega)
      · exact walk_b a0 a1 a2 a3 w hs h0 (by omega)
    · exact walk_a a0 a1 a2 a3 w hs (by omega)
  · exact walk_large a0 a1 a2 a3 w (by omega)

/-! ### THE ROW's STEP: WRITTEN OUT: LEAVE IT -/
set_option maxRecDepth 100000 in
theorem lifted (os : Os) (started : os.Started) (H : Type) (enc : TypeId × Value → H) :
    ReturnsInHanded {} Try.checked os 6 .any (Rows.fnWrittenDropsInStepsSpec.pre6 enc Try.prog Try.f6 Rows.fnWrittenDropsInStepsRow.domain false) (Rows.fnWrittenDropsInStepsSpec.post enc Try.prog Try.f6 false true false false) := by
  refine returnsInHanded_of_change (C := Try.checked) own started (by kernel_rfl) Try.func6
    (ChangeSpec.witness6 (enc := enc) (C := Try.checked) false ⟨#[], #[.string ByteArray.empty, .int .i64 0, .int .u8 0, .int .i64 0], []⟩ 8 (by kernel_rfl) (by kernel_rfl) (by kernel_rfl) (by kernel_rfl)) ?_
  intro W base args ds gs before hval0 hW hcnd _
  have hval : ∀ (j : Nat) t v, Try.f6.params[j]? = some t → args[j]? = some v → Value.okWide Try.prog W .any base t v := hval0
  have hW' := hW
  obtain ⟨p, q, hA0, hV, rfl, hfz, hnd⟩ := hW
  have hA : DataW.TrodAll enc Try.prog W 0 (fun _ => true) true Try.f6.params.toList args.toList ds p := hA0
  rw [Try.params6] at hA hval
  obtain ⟨v0, vs0, d0, ds0, p0, q0, hargs, rfl, rfl, h0, r0⟩ := trodAll_cons hA
  obtain ⟨v1, vs1, d1, ds1, p1, q1, rfl, rfl, rfl, h1, r1⟩ := trodAll_cons r0
  obtain ⟨v2, vs2, d2, ds2, p2, q2, rfl, rfl, rfl, h2, r2⟩ := trodAll_cons r1
  obtain ⟨v3, vs3, d3, ds3, p3, q3, rfl, rfl, rfl, h3, r3⟩ := trodAll_cons r2
  obtain ⟨rfl, rfl, rfl⟩ := trodAll_nil r3
  obtain rfl : args = #[v0, v1, v2, v3] := by cases args; simp_all
  obtain ⟨rfl, rfl⟩ := trodVars_none hV
  obtain ⟨a0, rfl, rfl, rfl, w0⟩ := open_string Try.underlying9 (hval 0 9 v0 rfl rfl) h0
  obtain ⟨a1, rfl, rfl, rfl, w1⟩ := open_int Try.underlying3 (hval 1 3 v1 rfl rfl) h1
  obtain ⟨a2, rfl, rfl, rfl, w2⟩ := open_int Try.underlying5 (hval 2 5 v2 rfl rfl) h2
  obtain ⟨a3, rfl, rfl, rfl, w3⟩ := open_int Try.underlying3 (hval 3 3 v3 rfl rfl) h3
  clear hA0 hval0
  simp only [List.append_nil] at hW'
  refine (walk a0 a1 a2 a3 w0 w1 w2 w3 W).mono fun e W' ⟨he, hg⟩ => ?_
  subst he
  exact ⟨_, rfl, post_of_same (pa := []) (pv := []) hW' (fun _ _ _ => (trodAll_cons_mk (shut_bool Try.underlying4 _) trodAll_mk0)) (fun sp _ => (trodAll_cons_mk (shut_string Try.underlying9 w0) (trodAll_cons_mk (shut_int Try.underlying3 w1) (trodAll_cons_mk (shut_int Try.underlying5 w2) (trodAll_cons_mk (shut_int Try.underlying3 w3) trodAll_mk0))))) (fun _ _ => rfl) rfl
    (hg.frame _) hg.2.1 (ok_one (by kernel_rfl) rfl (okWide_bool_mk Try.underlying4 _))⟩

theorem over : Rows.fnWrittenDropsInStepsRow.holds Try.pinned (OpenSpec.ofChange Rows.fnWrittenDropsInStepsSpec) :=
  OpenClaim.holds_of_wide 6 Try.f6 rfl rfl rfl rfl rfl rfl rfl ⟨rfl, rfl, rfl, rfl, rfl⟩ rfl rfl rfl rfl rfl (by kernel_rfl) Try.func6 (by kernel_rfl)
    (of_decide_eq_true (by kernel_rfl)) (by unfold Func.isWrapper; first | (rw [if_pos (by decide +kernel)]; kernel_rfl) | (rw [if_neg (by decide +kernel)]; exact ⟨rfl, rfl⟩))
    (fun os started H enc _ => lifted os started H enc)

/-- ████ THE STATEMENT ████ -/
theorem proved : Rows.FnWrittenDropsInStepsSaid :=
  over
end Go.Proofs.Qxb6608858a.fnWrittenDropsInSteps
