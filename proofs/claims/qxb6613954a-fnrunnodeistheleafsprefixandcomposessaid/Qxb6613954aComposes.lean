/-
  FnRunNodeIsTheLeafsPrefixAndComposes (3): the walk.
-/
import Derived.Test.Qxb6613954aBits
namespace Go.Proofs.Qxb6613954a.Composes
open Go.RowKit Go.Proofs.Qxb6613954a.Base Go.Proofs.Qxb6613954a.Bits

set_option maxHeartbeats 400000 in
theorem walk_low (x n k j : Int) (w : World) (h : n < 0) :
    Calls Try.prog 3 #[.int .u64 x, .int .i64 n, .int .i64 k, .int .i64 j] w fun e w' => e = .returned (.bool true) ∧ Grown w w' := by
  go_enter Try.func3, Try.ntmps3
  go_wp2_with fail
  go_ret
  exact ⟨rfl, Grown.refl _⟩

set_option maxHeartbeats 400000 in
theorem walk_high (x n k j : Int) (w : World) (h0 : 0 ≤ n) (h : 64 < n) :
    Calls Try.prog 3 #[.int .u64 x, .int .i64 n, .int .i64 k, .int .i64 j] w fun e w' => e = .returned (.bool true) ∧ Grown w w' := by
  go_enter Try.func3, Try.ntmps3
  go_wp2_with fail
  go_ret
  exact ⟨rfl, Grown.refl _⟩

set_option maxHeartbeats 400000 in
theorem walk_k0 (x n k j : Int) (w : World) (h0 : 0 ≤ n) (h1 : n ≤ 64) (h : k < 0) :
    Calls Try.prog 3 #[.int .u64 x, .int .i64 n, .int .i64 k, .int .i64 j] w fun e w' => e = .returned (.bool true) ∧ Grown w w' := by
  go_enter Try.func3, Try.ntmps3
  go_wp2_with fail
  go_ret
  exact ⟨rfl, Grown.refl _⟩

set_option maxHeartbeats 400000 in
theorem walk_k1 (x n k j : Int) (w : World) (h0 : 0 ≤ n) (h1 : n ≤ 64) (h2 : 0 ≤ k) (h : n < k) :
    Calls Try.prog 3 #[.int .u64 x, .int .i64 n, .int .i64 k, .int .i64 j] w fun e w' => e = .returned (.bool true) ∧ Grown w w' := by
  go_enter Try.func3, Try.ntmps3
  go_wp2_with fail
  go_ret
  exact ⟨rfl, Grown.refl _⟩

set_option maxHeartbeats 400000 in
theorem walk_j0 (x n k j : Int) (w : World) (h0 : 0 ≤ n) (h1 : n ≤ 64) (h2 : 0 ≤ k) (h3 : k ≤ n) (h : j < k) :
    Calls Try.prog 3 #[.int .u64 x, .int .i64 n, .int .i64 k, .int .i64 j] w fun e w' => e = .returned (.bool true) ∧ Grown w w' := by
  go_enter Try.func3, Try.ntmps3
  go_wp2_with fail
  go_ret
  exact ⟨rfl, Grown.refl _⟩

set_option maxHeartbeats 400000 in
theorem walk_j1 (x n k j : Int) (w : World) (h0 : 0 ≤ n) (h1 : n ≤ 64) (h2 : 0 ≤ k) (h3 : k ≤ n) (h4 : k ≤ j) (h : n < j) :
    Calls Try.prog 3 #[.int .u64 x, .int .i64 n, .int .i64 k, .int .i64 j] w fun e w' => e = .returned (.bool true) ∧ Grown w w' := by
  go_enter Try.func3, Try.ntmps3
  go_wp2_with fail
  go_ret
  exact ⟨rfl, Grown.refl _⟩

set_option maxHeartbeats 400000 in
theorem walk_rest (x n k j : Int) (w : World) (h0 : 0 ≤ n) (h1 : n ≤ 64) (h2 : 0 ≤ k) (h3 : k ≤ n) (h4 : k ≤ j) (h5 : j ≤ n) (hs : (IntKind.u64.wrap (x * 2 ^ n.toNat) != 0) = true) :
    Calls Try.prog 3 #[.int .u64 x, .int .i64 n, .int .i64 k, .int .i64 j] w fun e w' => e = .returned (.bool true) ∧ Grown w w' := by
  go_enter Try.func3, Try.ntmps3
  go_wp2_with fail
  go_ret
  exact ⟨rfl, Grown.refl _⟩

set_option maxHeartbeats 400000 in
theorem walk_main (x n k j : Int) (w : World) (h0 : 0 ≤ n) (h1 : n ≤ 64) (h2 : 0 ≤ k) (h3 : k ≤ n) (h4 : k ≤ j) (h5 : j ≤ n) (hx0 : 0 ≤ x) (hx1 : x ≤ 18446744073709551615) (hs : (IntKind.u64.wrap (x * 2 ^ n.toNat) != 0) = false) :
    Calls Try.prog 3 #[.int .u64 x, .int .i64 n, .int .i64 k, .int .i64 j] w fun e w' => e = .returned (.bool true) ∧ Grown w w' := by
  have hpb := pre_bounds x (n - k) hx0
  have hp0 : 0 ≤ pre x (n - k) := hpb.1
  have hp1 : pre x (n - k) ≤ 18446744073709551615 := by omega
  clear hpb
  go_enter Try.func3, Try.ntmps3
  go_wp2_with fail
  refine (new5 x n _).mono ?_
  rintro e w1 ⟨rfl, hg1, hz1, c0, c1⟩
  go_wp2_with fail
  refine (run6 w.heap.size x n k _ hz1 c0 c1 h2 h3 h1 hx0 hx1).mono ?_
  rintro e w2 ⟨rfl, hg2⟩
  have d0 := (hg2.cell (o := 0) hz1).trans c0
  have d1 := (hg2.cell (o := 1) hz1).trans c1
  have hz2 : w.heap.size < w2.heap.size := Nat.lt_of_lt_of_le hz1 hg2.size
  have HG : Hid (GB w w2) := hg1.trans hg2
  clear hg1 hg2 c0 c1 hz1
  go_wp2_with fail
  go_loop [12] (fun i => ∃ c : Nat, c ≤ 64 ∧ i = .int .i64 c) (fun i => 64 - (intOf i).toNat)
  case atStart => exact ⟨0, by omega, rfl⟩
  case round =>
    obtain ⟨c, hc, rfl⟩ := hrel
    by_cases hlt : (c : Int) < 64
    · by_cases hik : (c : Int) < n - k
      · have hb := bit_same x (n - k) (63 - c) hx0 (by omega)
        go_wp2_with fail
        go_round
        case rel => exact ⟨c + 1, by omega, by go_num⟩
        case measure => simp [intOf]; omega
      · have hb := bit_zero x (n - k) (63 - c) hx0 hx1 (by omega)
        go_wp2_with fail
        go_round
        case rel => exact ⟨c + 1, by omega, by go_num⟩
        case measure => simp [intOf]; omega
    · go_wp2_with fail
      refine (new5 (pre x (n - k)) (n - k) _).mono ?_
      rintro e w3 ⟨rfl, hg3, hz3, e0, e1⟩
      go_wp2_with fail
      refine (run6 w2.heap.size (pre x (n - k)) (n - k) (j - k) _ hz3 e0 e1 (by omega) (by omega) (by omega) hp0 hp1).mono ?_
      rintro e w4 ⟨rfl, hg4⟩
      have hg5 := hg3.trans hg4
      have f0 := (hg5.cell (o := 0) hz2).trans d0
      have f1 := (hg5.cell (o := 1) hz2).trans d1
      have hz4 : w.heap.size < w4.heap.size := Nat.lt_of_lt_of_le hz2 hg5.size
      have hcl : n - k - (j - k) = n - j := by omega
      have hcb := nested x (n - k) (n - j) hx0 (by omega)
      have HH : Hid (GB w w4) := HG.out.trans hg5
      clear hg3 hg4 hg5 e0 e1 hz3
      go_wp2_with fail
      refine (run6 w.heap.size x n j _ hz4 f0 f1 (by omega) h5 h1 hx0 hx1).mono ?_
      rintro e w5 ⟨rfl, hg6⟩
      have HI : Hid (Grown w w5) := (HH.out.trans hg6).1
      clear hg6 f0 f1
      go_wp2_with fail
      go_ret
      exact ⟨rfl, HI.out⟩

theorem walk (x n k j : Int) (w1 : (Lit.int .u64 x).wf = true) (w : World) :
    Calls Try.prog 3 #[.int .u64 x, .int .i64 n, .int .i64 k, .int .i64 j] w fun e w' => e = .returned (.bool true) ∧ Grown w w' := by
  have hb := u64_bounds w1
  by_cases h0 : 0 ≤ n
  · by_cases h1 : n ≤ 64
    · by_cases h2 : 0 ≤ k
      · by_cases h3 : k ≤ n
        · by_cases h4 : k ≤ j
          · by_cases h5 : j ≤ n
            · cases hs : (IntKind.u64.wrap (x * 2 ^ n.toNat) != 0)
              · exact walk_main x n k j w h0 h1 h2 h3 h4 h5 hb.1 hb.2 hs
              · exact walk_rest x n k j w h0 h1 h2 h3 h4 h5 hs
            · exact walk_j1 x n k j w h0 h1 h2 h3 h4 (by omega)
          · exact walk_j0 x n k j w h0 h1 h2 h3 (by omega)
        · exact walk_k1 x n k j w h0 h1 h2 (by omega)
      · exact walk_k0 x n k j w h0 h1 (by omega)
    · exact walk_high x n k j w h0 (by omega)
  · exact walk_low x n k j w (by omega)
end Go.Proofs.Qxb6613954a.Composes
