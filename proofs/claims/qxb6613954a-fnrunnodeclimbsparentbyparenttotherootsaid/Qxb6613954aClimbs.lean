/-
  FnRunNodeClimbsParentByParentToTheRoot (4): the walk.
-/
import Derived.Test.Qxb6613954aBits
namespace Go.Proofs.Qxb6613954a.Climbs
open Go.RowKit Go.Proofs.Qxb6613954a.Base Go.Proofs.Qxb6613954a.Bits

set_option maxHeartbeats 400000 in
theorem walk_low (x n : Int) (w : World) (h0 : n < 0) :
    Calls Try.prog 4 #[.int .u64 x, .int .i64 n] w fun e w' => e = .returned (.bool true) ∧ Grown w w' := by
  go_enter Try.func4, Try.ntmps4
  go_wp2_with fail
  go_ret
  exact ⟨rfl, Grown.refl _⟩

set_option maxHeartbeats 400000 in
theorem walk_high (x n : Int) (w : World) (h0 : 0 ≤ n) (h1 : 64 < n) :
    Calls Try.prog 4 #[.int .u64 x, .int .i64 n] w fun e w' => e = .returned (.bool true) ∧ Grown w w' := by
  go_enter Try.func4, Try.ntmps4
  go_wp2_with fail
  go_ret
  exact ⟨rfl, Grown.refl _⟩

set_option maxHeartbeats 400000 in
theorem walk_rest (x n : Int) (w : World) (h0 : 0 ≤ n) (h1 : n ≤ 64) (hs : (IntKind.u64.wrap (x * 2 ^ n.toNat) != 0) = true) :
    Calls Try.prog 4 #[.int .u64 x, .int .i64 n] w fun e w' => e = .returned (.bool true) ∧ Grown w w' := by
  go_enter Try.func4, Try.ntmps4
  go_wp2_with fail
  go_ret
  exact ⟨rfl, Grown.refl _⟩

set_option maxHeartbeats 400000 in
theorem walk_main (x n : Int) (w : World) (h0 : 0 ≤ n) (h1 : n ≤ 64) (hx0 : 0 ≤ x) (hx1 : x ≤ 18446744073709551615) (hs : (IntKind.u64.wrap (x * 2 ^ n.toNat) != 0) = false) (hwh : pre x n = x) :
    Calls Try.prog 4 #[.int .u64 x, .int .i64 n] w fun e w' => e = .returned (.bool true) ∧ Grown w w' := by
  go_enter Try.func4, Try.ntmps4
  go_wp2_with fail
  refine (new5 x n _).mono ?_
  rintro e w1 ⟨rfl, hg1, hz1, c0, c1⟩
  go_wp2_with fail
  refine (run6 w.heap.size x n 0 _ hz1 c0 c1 (by omega) h0 h1 hx0 hx1).mono ?_
  rintro e w2 ⟨rfl, hg2⟩
  have d0 := (hg2.cell (o := 0) hz1).trans c0
  have d1 := (hg2.cell (o := 1) hz1).trans c1
  have hz2 : w.heap.size < w2.heap.size := Nat.lt_of_lt_of_le hz1 hg2.size
  have HG : Hid (GB w w2) := hg1.trans hg2
  clear hg1 hg2 c0 c1 hz1
  go_wp2_with fail
  go_loopw [6, 7, 8] (fun cb cl k wr => ∃ c : Nat, (c : Int) ≤ n ∧ k = .int .i64 c ∧ cb = .int .u64 (pre x (n - c)) ∧ cl = .int .i64 (n - c) ∧ GB w2 wr) (fun _ _ k _ => n.toNat - (intOf k).toNat)
  case atStart => exact ⟨0, by omega, rfl, by simp [hwh], by simp, GB.refl _⟩
  case round =>
    obtain ⟨c, hc, rfl, rfl, rfl, hgr⟩ := hrel
    by_cases hlt : (c : Int) < n
    · have hpl : n - ((c : Int) + 1) = n - (c : Int) - 1 := by omega
      have hpar := parent_walk x (n - c) hx0 hx1 (by omega) (by omega)
      have e0 := (hgr.cell (o := 0) hz2).trans d0
      have e1 := (hgr.cell (o := 1) hz2).trans d1
      have hz3 : w.heap.size < wr.heap.size := Nat.lt_of_lt_of_le hz2 hgr.size
      go_wp2_with fail
      refine (run6 w.heap.size x n ((c : Int) + 1) _ hz3 e0 e1 (by omega) (by omega) h1 hx0 hx1).mono ?_
      rintro e w4 ⟨rfl, hg4⟩
      rw [hpl]
      have HR : Hid (GB w2 w4) := hgr.trans hg4
      clear hg4 e0 e1 hz3 hgr
      go_wp2_with fail
      go_roundw
      case rel => exact ⟨c + 1, by omega, by go_num, congrArg (Value.int .u64) (congrArg (pre x) (by omega)), congrArg (Value.int .i64) (by omega), HR⟩
      case measure => simp [intOf]; omega
    · have hn0 : n - (c : Int) = 0 := by omega
      have hrt := root x hx0 hx1
      go_wp2_with fail
      go_ret
      exact ⟨rfl, (HG.out.trans hgr).1⟩

theorem walk (x n : Int) (w1 : (Lit.int .u64 x).wf = true) (w : World) :
    Calls Try.prog 4 #[.int .u64 x, .int .i64 n] w fun e w' => e = .returned (.bool true) ∧ Grown w w' := by
  have hb := u64_bounds w1
  by_cases h0 : 0 ≤ n
  · by_cases h1 : n ≤ 64
    · cases hs : (IntKind.u64.wrap (x * 2 ^ n.toNat) != 0)
      · exact walk_main x n w h0 h1 hb.1 hb.2 hs (whole x n hb.1 h0 h1 hs)
      · exact walk_rest x n w h0 h1 hs
    · exact walk_high x n w h0 (by omega)
  · exact walk_low x n w (by omega)
end Go.Proofs.Qxb6613954a.Climbs
