/-
  Contracts of the functions that both laws call: zzBytes_.. (15, 18), ZZNewUnitSymbol (17), ZZWritten (16).
-/
import Derived.Test.Qxb6608858aRows
import Derived.WalkKit
import Derived.WalkSpells
import Derived.WalkLawsBesides
import Derived.ProofKit
namespace Go.Proofs.Qxb6608858a.Base
open Go.RowKit

theorem grown_trans {a b c : World} (h : Grown a b) (k : Grown b c) : Grown a c :=
  ⟨World.keptBut_trans h.1 k.1, fun x => (k.2.1 x).trans (h.2.1 x), Nat.le_trans h.2.2 k.2.2⟩

/-- What 'written' writes: the text less its optional end. -/
def cut (a : ByteArray) (n : Int) : ByteArray := a.extract 0 ((a.size : Int) - n).toNat
theorem cut_size (a : ByteArray) (n : Int) (h0 : 0 ≤ n) (h1 : n ≤ a.size) : ((cut a n).size : Int) = a.size - n := by
  unfold cut; rw [ByteArray.size_extract]; omega
theorem cut_zero (a : ByteArray) : cut a 0 = a := by
  unfold cut; rw [show (((a.size : Int) - 0).toNat) = a.size by omega]; exact ByteArray.extract_zero_size
theorem cut_cut (a : ByteArray) (n m : Int) (h0 : 0 ≤ n) (h1 : n ≤ a.size) (h2 : 0 ≤ m) (h3 : m ≤ a.size - n) : cut (cut a n) m = cut a (n + m) := by
  have hs := cut_size a n h0 h1
  show (cut a n).extract 0 _ = _
  rw [hs]; unfold cut; rw [ByteArray.extract_extract]; congr 1 <;> omega
theorem pre_cut (a : ByteArray) (n m : Int) (h0 : 0 ≤ m) (h1 : m ≤ n) (h2 : n ≤ a.size) : (cut a m).extract 0 (cut a n).size = cut a n := by
  have hs := cut_size a n (by omega) h2
  unfold cut at *; rw [ByteArray.extract_extract]; congr 1; omega

set_option maxHeartbeats 400000 in
theorem zz15_small (a0 : ByteArray) (a1 a2 a3 : Int) (w : World) (h : (a0.size : Int) ≤ 1048576) :
    Calls Try.prog 15 #[.string a0, .int .i64 a1, .int .u8 a2, .int .i64 a3] w fun e w' => e = .returned (.bool true) ∧ w' = w := by
  go_enter Try.func15, Try.ntmps15
  go_wp2
  go_ret
  exact ⟨rfl, rfl⟩

set_option maxHeartbeats 400000 in
theorem zz15_large (a0 : ByteArray) (a1 a2 a3 : Int) (w : World) (h : 1048576 < (a0.size : Int)) :
    Calls Try.prog 15 #[.string a0, .int .i64 a1, .int .u8 a2, .int .i64 a3] w fun e w' => e = .returned (.bool false) ∧ w' = w := by
  go_enter Try.func15, Try.ntmps15
  go_wp2
  go_ret
  exact ⟨rfl, rfl⟩

set_option maxHeartbeats 400000 in
theorem zz18_small (a0 : ByteArray) (a1 a2 a3 : Int) (w : World) (h : (a0.size : Int) ≤ 1048576) :
    Calls Try.prog 18 #[.string a0, .int .i64 a1, .int .u8 a2, .int .i64 a3] w fun e w' => e = .returned (.bool true) ∧ w' = w := by
  go_enter Try.func18, Try.ntmps18
  go_wp2
  go_ret
  exact ⟨rfl, rfl⟩

set_option maxHeartbeats 400000 in
theorem zz18_large (a0 : ByteArray) (a1 a2 a3 : Int) (w : World) (h : 1048576 < (a0.size : Int)) :
    Calls Try.prog 18 #[.string a0, .int .i64 a1, .int .u8 a2, .int .i64 a3] w fun e w' => e = .returned (.bool false) ∧ w' = w := by
  go_enter Try.func18, Try.ntmps18
  go_wp2
  go_ret
  exact ⟨rfl, rfl⟩

set_option maxHeartbeats 400000 in
theorem mk17 (a0 : ByteArray) (a1 a2 : Int) (w : World) :
    Calls Try.prog 17 #[.string a0, .int .i64 a1, .int .u8 a2] w fun e w' => e = .returned (.agg #[.string a0, .int .i64 a1, .int .u8 a2]) ∧ Grown w w' := by
  go_enter Try.func17, Try.ntmps17
  go_wp2
  exact bodyPost_ret (v := .agg #[.string a0, .int .i64 a1, .int .u8 a2]) (by simp [results, Try.results17, go_sem]) rfl ⟨rfl, (Grown.refl _).alloc _ _⟩

set_option maxHeartbeats 400000 in
theorem written20 (a0 : ByteArray) (a1 a2 : Int) (w : World) (h0 : 0 ≤ a1) (h1 : a1 ≤ a0.size) (h2 : (a0.size : Int) ≤ 1048576) :
    Calls Try.prog 20 #[.agg #[.string a0, .int .i64 a1, .int .u8 a2]] w fun e w' => e = .returned (.string (cut a0 a1)) ∧ Grown w w' := by
  go_enter Try.func20, Try.ntmps20
  go_wp2
  go_ret
  exact ⟨rfl, (Grown.refl _).alloc _ _⟩

set_option maxHeartbeats 400000 in
theorem written16 (a0 : ByteArray) (a1 a2 : Int) (w : World) (h0 : 0 ≤ a1) (h1 : a1 ≤ a0.size) (h2 : (a0.size : Int) ≤ 1048576) :
    Calls Try.prog 16 #[.agg #[.string a0, .int .i64 a1, .int .u8 a2]] w fun e w' => e = .returned (.string (cut a0 a1)) ∧ Grown w w' := by
  go_enter Try.func16, Try.ntmps16
  go_wp2_with (go_at_call 20; refine (written20 _ _ _ _ h0 h1 h2).mono ?_; rintro e w' ⟨rfl, hg⟩)
  go_ret
  exact ⟨rfl, grown_trans ((Grown.refl _).alloc _ _) hg⟩
end Go.Proofs.Qxb6608858a.Base
