/-
  The bounds on sizes: zzBytes_FnEntryPathNests (11), zzBytes_FnEntryPathInjectiveAndReadsBack (13), zzFit3 (12), zzAddStr (15), zzAdd (16).
-/
import Derived.Test.Qxb6613650aFmtTargetIs
namespace Go.Proofs.Qxb6613650aFmt.Fit
open Go.RowKit Go.Kit

set_option maxHeartbeats 400000 in
theorem zz11_small (a b c : ByteArray) (j : Int) (w : World) (h : (a.size : Int) + b.size + c.size ≤ 1048576) :
    Calls Tryf.prog 11 #[.string a, .string b, .string c, .int .i64 j] w fun e w' => e = .returned (.bool true) ∧ w' = w := by
  have h1 : (a.size : Int) ≤ 1048576 := by omega
  have h2 : (b.size : Int) ≤ 1048576 := by omega
  have h3 : (c.size : Int) ≤ 1048576 := by omega
  have h4 : (a.size : Int) + b.size ≤ 1048576 := by omega
  go_enter Tryf.func11, Tryf.ntmps11
  go_wp2
  go_ret
  exact ⟨rfl, rfl⟩

set_option maxHeartbeats 400000 in
theorem zz11_large (a b c : ByteArray) (j : Int) (w : World) (h : ¬ (a.size : Int) + b.size + c.size ≤ 1048576) :
    Calls Tryf.prog 11 #[.string a, .string b, .string c, .int .i64 j] w fun e w' => e = .returned (.bool false) ∧ w' = w := by
  have H : Hid (¬ (a.size : Int) + b.size + c.size ≤ 1048576) := h
  clear h
  go_enter Tryf.func11, Tryf.ntmps11
  go_wp2
  all_goals go_ret
  all_goals first | exact ⟨rfl, rfl⟩ | (have := H.out; exfalso; omega)

set_option maxHeartbeats 400000 in
theorem zz13_small (a b : ByteArray) (i j : Int) (w : World) (h : (a.size : Int) + b.size ≤ 1048576) :
    Calls Tryf.prog 13 #[.string a, .string b, .int .i64 i, .int .i64 j] w fun e w' => e = .returned (.bool true) ∧ w' = w := by
  have h1 : (a.size : Int) ≤ 1048576 := by omega
  have h2 : (b.size : Int) ≤ 1048576 := by omega
  go_enter Tryf.func13, Tryf.ntmps13
  go_wp2
  go_ret
  exact ⟨rfl, rfl⟩

set_option maxHeartbeats 400000 in
theorem zz13_large (a b : ByteArray) (i j : Int) (w : World) (h : ¬ (a.size : Int) + b.size ≤ 1048576) :
    Calls Tryf.prog 13 #[.string a, .string b, .int .i64 i, .int .i64 j] w fun e w' => e = .returned (.bool false) ∧ w' = w := by
  have H : Hid (¬ (a.size : Int) + b.size ≤ 1048576) := h
  clear h
  go_enter Tryf.func13, Tryf.ntmps13
  go_wp2
  all_goals go_ret
  all_goals first | exact ⟨rfl, rfl⟩ | (have := H.out; exfalso; omega)

set_option maxHeartbeats 400000 in
theorem add16 (t n : Int) (w : World) (h0 : 0 ≤ t) (h1 : 0 ≤ n) (h2 : t + n ≤ 1048576) :
    Calls Tryf.prog 16 #[.int .i64 t, .int .i64 n] w fun e w' => e = .returned (.tuple #[.int .i64 (t + n), .bool true]) ∧ w' = w := by
  have h3 : ¬ 1048576 - t < n := by omega
  have h4 : n ≤ 1048576 := by omega
  have h5 : t ≤ 1048576 := by omega
  go_enter Tryf.func16, Tryf.ntmps16
  go_wp2
  go_ret2
  exact ⟨rfl, rfl⟩

set_option maxHeartbeats 400000 in
theorem add15 (t : Int) (s : ByteArray) (w : World) (h0 : 0 ≤ t) (h2 : t + s.size ≤ 1048576) :
    Calls Tryf.prog 15 #[.int .i64 t, .string s] w fun e w' => e = .returned (.tuple #[.int .i64 (t + s.size), .bool true]) ∧ w' = w := by
  go_enter Tryf.func15, Tryf.ntmps15
  go_wp2_with fail
  refine (add16 _ _ _ h0 (by omega) h2).mono ?_
  rintro e w' ⟨rfl, rfl⟩
  go_wp2_with fail
  go_ret2
  exact ⟨rfl, rfl⟩

set_option maxHeartbeats 400000 in
theorem fit12 (a b c : ByteArray) (w : World) (h : (a.size : Int) + b.size + c.size ≤ 1048576) :
    Calls Tryf.prog 12 #[.string a, .string b, .string c] w fun e w' => e = .returned (.bool true) ∧ w' = w := by
  go_enter Tryf.func12, Tryf.ntmps12
  go_wp2_with fail
  refine (add15 _ _ _ (by omega) (by omega)).mono ?_
  rintro e w' ⟨rfl, rfl⟩
  go_wp2_with fail
  refine (add15 _ _ _ (by omega) (by omega)).mono ?_
  rintro e w' ⟨rfl, rfl⟩
  go_wp2_with fail
  refine (add15 _ _ _ (by omega) (by omega)).mono ?_
  rintro e w' ⟨rfl, rfl⟩
  go_wp2_with fail
  go_ret
  exact ⟨rfl, rfl⟩
end Go.Proofs.Qxb6613650aFmt.Fit
