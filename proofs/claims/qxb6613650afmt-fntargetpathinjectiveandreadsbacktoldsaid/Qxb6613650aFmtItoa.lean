/-
  zzItoa (9): the numeral.
-/
import Derived.Test.Qxb6613650aFmtPaths
import Derived.WalkLawsBesides
namespace Go.Proofs.Qxb6613650aFmt.Itoa
open Go.RowKit Go.Kit Go.Proofs.Qxb6613650aFmt.Paths

/-- The buffer with the digits ds at its end. -/
def bufA (ds : List UInt8) : Array Value := (List.replicate (24 - ds.length) (Value.int .u8 0) ++ ds.map fun (c : UInt8) => Value.int .u8 (c.toNat : Int)).toArray

theorem bufA_nil : bufA [] = #[Value.int .u8 0, Value.int .u8 0, Value.int .u8 0, Value.int .u8 0, Value.int .u8 0, Value.int .u8 0, Value.int .u8 0, Value.int .u8 0, Value.int .u8 0, Value.int .u8 0, Value.int .u8 0, Value.int .u8 0, Value.int .u8 0, Value.int .u8 0, Value.int .u8 0, Value.int .u8 0, Value.int .u8 0, Value.int .u8 0, Value.int .u8 0, Value.int .u8 0, Value.int .u8 0, Value.int .u8 0, Value.int .u8 0, Value.int .u8 0] := rfl

theorem bufA_at (ds : List UInt8) (q : Nat) (h : q + ds.length < 24) : (bufA ds)[q]? = some (.int .u8 0) := by
  simp only [bufA, List.getElem?_toArray]
  rw [List.getElem?_append_left (by simp; omega), List.getElem?_replicate, if_pos (by omega)]

theorem bufA_digit (ds : List UInt8) (q j : Nat) (h : q + ds.length = 24) (hj : j < ds.length) : (bufA ds)[q + j]? = some (.int .u8 (ds[j].toNat : Int)) := by
  simp only [bufA, List.getElem?_toArray]
  rw [List.getElem?_append_right (by simp; omega), List.length_replicate, show q + j - (24 - ds.length) = j by omega]
  simp [List.getElem?_eq_getElem hj]

theorem bufA_set (ds : List UInt8) (q : Nat) (c : UInt8) (h : q + ds.length = 23) : (bufA ds).setIfInBounds q (.int .u8 (c.toNat : Int)) = bufA (c :: ds) := by
  simp only [bufA, List.setIfInBounds_toArray, List.map_cons, List.length_cons]
  congr 1
  rw [show 24 - ds.length = q + 1 by omega, show 24 - (ds.length + 1) = q by omega, List.replicate_succ', List.append_assoc, List.set_append_right _ _ (by simp)]
  simp

/-- The digit of m. -/
def dgt (m : Nat) : UInt8 := UInt8.ofNat (48 + m % 10)
theorem dgt_nat (m : Nat) : ((dgt m).toNat : Int) = 48 + (m : Int) % 10 := by
  unfold dgt; simp only [UInt8.toNat_ofNat']; omega
theorem bufA_set_dgt (ds : List UInt8) (q m : Nat) (h : q + ds.length = 23) : (bufA ds).setIfInBounds q (.int .u8 (48 + (m : Int) % 10)) = bufA (dgt m :: ds) := by
  rw [← dgt_nat]; exact bufA_set ds q _ h
theorem bufA_set_sign (ds : List UInt8) (q : Nat) (h : q + ds.length = 23) : (bufA ds).setIfInBounds q (.int .u8 45) = bufA (45 :: ds) :=
  bufA_set ds q 45 h

theorem dd_small (m : Nat) (h : m < 10) : Lib.decDigits m = [dgt m] := by
  rw [Lib.decDigits_one h, dgt, Nat.mod_eq_of_lt h]
theorem dd_big (m : Nat) (h : ¬ m < 10) : Lib.decDigits m = Lib.decDigits (m / 10) ++ [dgt m] := by
  rw [Lib.decDigits, dif_neg h]; rfl

theorem slice_buf (B q : Nat) (w : World) (hq : q < 24) : (Instr.sliceAt 32 (.pointer (some ⟨B, 0, none⟩)) (some (.int .i64 (q : Int))) none none).run Tryf.prog w = .ok (.slice (some ⟨B, q, none⟩) (24 - q) (24 - q)) w := by
  have e1 : Tryf.prog.arrayLen 32 = 24 := by kernel_rfl
  have e2 : (sizeOf (Tryf.prog.elem 32)).run Tryf.prog w = .ok 1 w := by kernel_rfl
  rw [run_sliceAt_array_l w 32 ⟨B, 0, none⟩ (by kernel_rfl) .i64 (q : Int) (by omega) (by rw [e1]; omega), e2, e1]
  simp only [Result.andThen, slicedAt, Int.toNat_natCast, Nat.mul_one]
  rw [if_neg (by omega), Lib.add_plain, Nat.zero_add]

theorem conv_buf (w : World) (ds : List UInt8) (q : Nat) (h : q + ds.length = 24) :
    (convert 33 9 (.slice (some ⟨w.heap.size, q, none⟩) (24 - q) (24 - q))).run Tryf.prog (w.alloc (.cells (bufA ds) 32)) = .ok (.string (str ds)) (w.alloc (.cells (bufA ds) 32)) := by
  have e : 24 - q = ds.length := by omega
  rw [e]
  refine run_convert_bytes_back (P := Tryf.prog) _ 33 9 5 ⟨w.heap.size, q, none⟩ _ ds (by kernel_rfl) (by kernel_rfl) (by kernel_rfl) fun j hj => ?_
  rw [Lib.add_plain, World.cell?_alloc_new, bufA_digit ds q j h hj]

theorem wrap_neg (n : Int) (h0 : n < 0) (h1 : -9223372036854775808 ≤ n) : IntKind.u64.wrap (-IntKind.u64.wrap n) = (n.natAbs : Int) := by
  simp [IntKind.wrap, IntKind.signed, IntKind.bits]; omega

theorem dd_len (m : Nat) (h : m ≤ 9223372036854775808) : (Lib.decDigits m).length ≤ 20 := by
  rw [Lib.decDigits_length]; exact Lib.nDigits_le20 m (by omega)

set_option maxHeartbeats 400000 in
theorem itoa_pos (n : Int) (w : World) (h0 : 0 ≤ n) (h1 : n ≤ 9223372036854775807) :
    Calls Tryf.prog 9 #[.int .i64 n] w fun e w' => e = .returned (.string (str (Lib.itoa n))) ∧ Grown w w' ∧ w'.tape = w.tape := by
  go_enter Tryf.func9, Tryf.ntmps9
  go_wp2
  go_loopw [3, 6] (fun u k wr => ∃ (m q : Nat) (ds : List UInt8), q + ds.length = 23 ∧ m ≤ 9223372036854775808 ∧ u = .int .u64 m ∧ k = .int .i64 ((q : Int) + 1) ∧ Hid (Lib.decDigits m ++ ds = Lib.decDigits n.toNat) ∧ wr = w.alloc (.cells (bufA ds) 32)) (fun _ k _ => (intOf k).toNat)
  case atStart => exact ⟨n.toNat, 23, [], rfl, by omega, by go_num, rfl, by show _ = _; simp, by rw [bufA_nil]⟩
  case round =>
    obtain ⟨m, q, ds, hq, hm, rfl, rfl, HD, rfl⟩ := hrel
    have hl := dd_len n.toNat (by omega)
    have hl2 := congrArg List.length HD.out
    rw [List.length_append] at hl2
    have HQ : Hid (q + ds.length = 23) := hq
    have hq23 : q ≤ 23 := by omega
    have hc := bufA_at ds q (by omega)
    have hset := bufA_set_dgt ds q m hq
    by_cases hlt : m < 10
    · have hz : (m : Int) / 10 = 0 := by omega
      have HF : Hid (dgt m :: ds = Lib.decDigits n.toNat) := by rw [dd_small m hlt] at HD; exact HD.out
      have hsl := fun wx => slice_buf w.heap.size q wx (by omega)
      have hcv := conv_buf w (dgt m :: ds) q (by simp only [List.length_cons]; omega)
      clear hq hl hl2
      go_wp2
      go_ret
      refine ⟨?_, (Grown.refl _).alloc _ _, rfl⟩
      show Ending.returned (.string (str (dgt m :: ds))) = _
      rw [HF.out]; unfold Lib.itoa; rw [if_neg (by omega)]
    · have hz : ((m : Int) / 10 == 0) = false := by simp; omega
      have HE := dd_big m hlt
      have hl3 : 1 ≤ (Lib.decDigits (m / 10)).length := by rw [Lib.decDigits_length]; exact Lib.nDigits_pos _
      have hl4 := congrArg List.length HE
      rw [List.length_append, List.length_singleton] at hl4
      have hq1 : 1 ≤ q := by omega
      have HF : Hid (Lib.decDigits (m / 10) ++ (dgt m :: ds) = Lib.decDigits n.toNat) := by rw [HE, List.append_assoc] at HD; exact HD.out
      clear hq hl hl2 hl4 hl3 HE
      go_wp2
      go_roundw
      case rel => exact ⟨m / 10, q - 1, dgt m :: ds, by have := HQ.out; simp only [List.length_cons]; omega, by omega, by go_num, by go_num, HF, rfl⟩
      case measure => simp [intOf]

set_option maxHeartbeats 400000 in
theorem itoa_neg (n : Int) (w : World) (h0 : n < 0) (h1 : -9223372036854775808 ≤ n) :
    Calls Tryf.prog 9 #[.int .i64 n] w fun e w' => e = .returned (.string (str (Lib.itoa n))) ∧ Grown w w' ∧ w'.tape = w.tape := by
  go_enter Tryf.func9, Tryf.ntmps9
  go_wp2
  go_loopw [3, 6] (fun u k wr => ∃ (m q : Nat) (ds : List UInt8), q + ds.length = 23 ∧ m ≤ 9223372036854775808 ∧ u = .int .u64 m ∧ k = .int .i64 ((q : Int) + 1) ∧ Hid (Lib.decDigits m ++ ds = Lib.decDigits n.natAbs) ∧ wr = w.alloc (.cells (bufA ds) 32)) (fun _ k _ => (intOf k).toNat)
  case atStart => exact ⟨n.natAbs, 23, [], rfl, by omega, congrArg (Value.int .u64) (wrap_neg n h0 h1), rfl, by show _ = _; simp, by rw [bufA_nil]⟩
  case round =>
    obtain ⟨m, q, ds, hq, hm, rfl, rfl, HD, rfl⟩ := hrel
    have hl := dd_len n.natAbs (by omega)
    have hl2 := congrArg List.length HD.out
    rw [List.length_append] at hl2
    have HQ : Hid (q + ds.length = 23) := hq
    have hq23 : q ≤ 23 := by omega
    have hc := bufA_at ds q (by omega)
    have hset := bufA_set_dgt ds q m hq
    by_cases hlt : m < 10
    · have hz : (m : Int) / 10 = 0 := by omega
      have HF : Hid (dgt m :: ds = Lib.decDigits n.natAbs) := by rw [dd_small m hlt] at HD; exact HD.out
      have hlm := congrArg List.length HF.out
      rw [List.length_cons] at hlm
      obtain ⟨p, rfl⟩ : ∃ p, q = p + 1 := ⟨q - 1, by omega⟩
      have hc2 := bufA_at (dgt m :: ds) p (by simp only [List.length_cons]; omega)
      have hset2 := bufA_set_sign (dgt m :: ds) p (by simp only [List.length_cons]; omega)
      have hsl := fun wx => slice_buf w.heap.size p wx (by omega)
      have hcv := conv_buf w (45 :: dgt m :: ds) p (by simp only [List.length_cons]; omega)
      clear hq hl hl2 hlm
      go_wp2
      go_ret
      refine ⟨?_, (Grown.refl _).alloc _ _, rfl⟩
      show Ending.returned (.string (str (45 :: dgt m :: ds))) = _
      rw [HF.out]; unfold Lib.itoa; rw [if_pos (by omega)]
    · have hz : ((m : Int) / 10 == 0) = false := by simp; omega
      have HE := dd_big m hlt
      have hl3 : 1 ≤ (Lib.decDigits (m / 10)).length := by rw [Lib.decDigits_length]; exact Lib.nDigits_pos _
      have hl4 := congrArg List.length HE
      rw [List.length_append, List.length_singleton] at hl4
      have hq1 : 1 ≤ q := by omega
      have HF : Hid (Lib.decDigits (m / 10) ++ (dgt m :: ds) = Lib.decDigits n.natAbs) := by rw [HE, List.append_assoc] at HD; exact HD.out
      clear hq hl hl2 hl4 hl3 HE
      go_wp2
      go_roundw
      case rel => exact ⟨m / 10, q - 1, dgt m :: ds, by have := HQ.out; simp only [List.length_cons]; omega, by omega, by go_num, by go_num, HF, rfl⟩
      case measure => simp [intOf]


/-- zzItoa writes the numeral, at every int. -/
theorem itoa_any (n : Int) (w : World) (hw : (Lit.int .i64 n).wf = true) :
    Calls Tryf.prog 9 #[.int .i64 n] w fun e w' => e = .returned (.string (str (Lib.itoa n))) ∧ Grown w w' ∧ w'.tape = w.tape := by
  have hb := Go.Extern.FmtText.int_bounds64 hw
  by_cases h : 0 ≤ n
  · exact itoa_pos n w h (by have := hb.2.2.1 rfl; omega)
  · exact itoa_neg n w (by omega) (by have := hb.1; omega)
end Go.Proofs.Qxb6613650aFmt.Itoa
