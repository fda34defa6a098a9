/-
  Contracts of the functions that both laws call: ZZnewBucketLabel (5), ZZrunNode (6), runNode (7), and function 8 beneath them.
-/
import Derived.Test.Qxb6613954aRows
import Derived.WalkKit
import Derived.WalkSpells
import Derived.WalkLawsBesides
import Derived.ProofKit
import Derived.Deep.RegionWith
namespace Go.Proofs.Qxb6613954a.Base
open Go.RowKit

/-- New blocks alone, and nothing old turned: both words of the kit. -/
def GB (w w' : World) : Prop := Grown w w' ∧ Below w.heap.size w w'
theorem GB.refl (w : World) : GB w w := ⟨Grown.refl _, Below.refl _ _⟩
theorem GB.alloc {w w' : World} (h : GB w w') (c : Array Value) (t : TypeId) : GB w (w'.alloc (.cells c t)) := ⟨h.1.alloc c t, h.2.alloc h.2.size _⟩
theorem GB.drew {w w' : World} (h : GB w w') : GB w w'.drew := ⟨h.1.drew, h.2.drew⟩
theorem GB.trans {a b c : World} (h : GB a b) (k : GB b c) : GB a c :=
  ⟨⟨World.keptBut_trans h.1.1 k.1.1, fun x => (k.1.2.1 x).trans (h.1.2.1 x), Nat.le_trans h.1.2.2 k.1.2.2⟩, h.2.trans (k.2.mono h.2.size)⟩
theorem GB.cell {w w' : World} (h : GB w w') {b o : Nat} (hb : b < w.heap.size) : w'.cell? ⟨b, o, none⟩ = w.cell? ⟨b, o, none⟩ := h.2.cell (p := ⟨b, o, none⟩) hb
theorem GB.size {w w' : World} (h : GB w w') : w.heap.size ≤ w'.heap.size := h.2.size

/-- The first n bits of x, zero below. -/
def pre (x n : Int) : Int := x / 2 ^ (64 - n).toNat * 2 ^ (64 - n).toNat

theorem pre_bounds (x n : Int) (h0 : 0 ≤ x) : 0 ≤ pre x n ∧ pre x n ≤ x := by
  have hp : (0 : Int) < 2 ^ (64 - n).toNat := Int.pow_pos (by decide)
  refine ⟨Int.mul_nonneg (Int.ediv_nonneg h0 (Int.le_of_lt hp)) (Int.le_of_lt hp), ?_⟩
  exact Int.ediv_mul_le x (Int.ne_of_gt hp)

theorem wrap_id (x : Int) (h0 : 0 ≤ x) (h1 : x ≤ 18446744073709551615) : IntKind.u64.wrap x = x := by
  simp [IntKind.wrap, IntKind.signed, IntKind.bits]; omega

theorem wrap_small (x : Int) (h0 : -9223372036854775808 ≤ x) (h1 : x ≤ 9223372036854775807) : IntKind.i64.wrap x = x := by
  simp [IntKind.wrap, IntKind.signed, IntKind.bits]; omega

theorem wrap_pre (x n : Int) (h0 : 0 ≤ x) (h1 : x ≤ 18446744073709551615) : IntKind.u64.wrap (x / 2 ^ (64 - n).toNat * 2 ^ (64 - n).toNat) = pre x n := by
  have hb := pre_bounds x n h0
  exact wrap_id (pre x n) hb.1 (by omega)

set_option maxHeartbeats 400000 in
theorem pre8 (x n : Int) (w : World) (h0 : 0 ≤ n) (h1 : n ≤ 64) (hx0 : 0 ≤ x) (hx1 : x ≤ 18446744073709551615) :
    Calls Try.prog 8 #[.int .u64 x, .int .i64 n] w fun e w' => e = .returned (.agg #[.int .u64 (pre x n), .int .i64 n]) ∧ w' = w.alloc (.cells #[.int .u64 (pre x n), .int .i64 n] 31) := by
  have hp := wrap_pre x n hx0 hx1
  go_enter Try.func8, Try.ntmps8
  go_wp2
  exact bodyPost_ret (v := .agg #[.int .u64 (pre x n), .int .i64 n]) (by simp [results, Try.results8, go_sem]) rfl ⟨rfl, rfl⟩

set_option maxHeartbeats 400000 in
theorem new5 (x n : Int) (w : World) :
    Calls Try.prog 5 #[.int .u64 x, .int .i64 n] w fun e w' => e = .returned (.pointer (some ⟨w.heap.size, 0, none⟩)) ∧ GB w w' ∧ w.heap.size < w'.heap.size ∧
      w'.cell? ⟨w.heap.size, 0, none⟩ = some (.int .u64 x) ∧ w'.cell? ⟨w.heap.size, 1, none⟩ = some (.int .i64 n) := by
  go_enter Try.func5, Try.ntmps5
  go_wp2
  go_ret
  exact ⟨rfl, (GB.refl _).alloc _ _, by simp, by rw [World.cell?_alloc_new]; rfl, by rw [World.cell?_alloc_new]; rfl⟩

set_option maxHeartbeats 400000 in
theorem run7 (b : Nat) (x n k : Int) (w : World) (hb : b < w.heap.size) (c0 : w.cell? ⟨b, 0, none⟩ = some (.int .u64 x)) (c1 : w.cell? ⟨b, 1, none⟩ = some (.int .i64 n))
    (h0 : 0 ≤ k) (h1 : k ≤ n) (h2 : n ≤ 64) (hx0 : 0 ≤ x) (hx1 : x ≤ 18446744073709551615) :
    Calls Try.prog 7 #[.pointer (some ⟨b, 0, none⟩), .int .i64 k] w fun e w' => e = .returned (.agg #[.int .u64 (pre x (n - k)), .int .i64 (n - k)]) ∧ GB w w' := by
  have hwr : IntKind.i64.wrap (n - k) = n - k := wrap_small _ (by omega) (by omega)
  go_enter Try.func7, Try.ntmps7
  go_wp2
  go_region_with (go_at_call 8; refine (pre8 _ _ _ (by omega) (by omega) hx0 hx1).mono ?_; rintro e w' ⟨rfl, rfl⟩)
  all_goals
    go_wp2
    exact bodyPost_ret (v := .agg #[.int .u64 (pre x (n - k)), .int .i64 (n - k)]) (by simp [results, Try.results7, go_sem]) rfl ⟨rfl, (((GB.refl _).alloc _ _).alloc _ _).drew⟩

set_option maxHeartbeats 400000 in
theorem run6 (b : Nat) (x n k : Int) (w : World) (hb : b < w.heap.size) (c0 : w.cell? ⟨b, 0, none⟩ = some (.int .u64 x)) (c1 : w.cell? ⟨b, 1, none⟩ = some (.int .i64 n))
    (h0 : 0 ≤ k) (h1 : k ≤ n) (h2 : n ≤ 64) (hx0 : 0 ≤ x) (hx1 : x ≤ 18446744073709551615) :
    Calls Try.prog 6 #[.pointer (some ⟨b, 0, none⟩), .int .i64 k] w fun e w' => e = .returned (.tuple #[.int .u64 (pre x (n - k)), .int .i64 (n - k)]) ∧ GB w w' := by
  go_enter Try.func6, Try.ntmps6
  go_wp2_with fail
  refine (run7 b x n k _ hb c0 c1 h0 h1 h2 hx0 hx1).mono ?_
  rintro e w1 ⟨rfl, hg1⟩
  go_wp2_with fail
  go_region
  all_goals
    go_wp2
    go_ret2
    exact ⟨rfl, (hg1.alloc _ _).drew⟩
end Go.Proofs.Qxb6613954a.Base
