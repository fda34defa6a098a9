/-
  zzReadsBack (10): the walk: what it says of a text head, '[', the numeral of n, ']'.
-/
import Derived.Test.Qxb6613650aFmtTargetIs
import Derived.Test.Qxb6613650aFmtReadsPlain
import Derived.Deep.Cut
namespace Go.Proofs.Qxb6613650aFmt.ReadsBack
open Go.RowKit Go.Kit Go.Proofs.Qxb6613650aFmt.Paths Go.Proofs.Qxb6613650aFmt.ReadsPlain

theorem at_list (d : ByteArray) (k : Nat) (h : k < d.size) (h' : k < d.data.toList.length) : d[k]'h = d.data.toList[k]'h' := rfl

theorem wrap_back (n : Int) (h0 : n < 0) (h1 : -9223372036854775808 ≤ n) : wrap64 (-wrap64 (-n)) = n := by
  unfold wrap64; omega

set_option maxHeartbeats 400000 in
theorem reads_pos (s head d : ByteArray) (n : Int) (w : World) (hh : head.size ≤ 1099511627776) (h0 : 0 ≤ n) (h1 : n ≤ 9223372036854775807)
    (hsz : s.size = head.size + d.size + 2) (hd1 : 1 ≤ d.size) (hd2 : d.size ≤ 20)
    (hb1 : s.extract 0 head.size = head) (hb2 : ∀ h : head.size < s.size, s[head.size]'h = 91) (hb3 : ∀ h : s.size - 1 < s.size, s[s.size - 1]'h = 93)
    (hb4 : s.extract (head.size + 1) (s.size - 1) = d) (HD : Hid (∀ c ∈ d.data.toList, 48 ≤ c.toNat ∧ c.toNat ≤ 57)) (HV : Hid (val d.data.toList = n.toNat)) :
    Calls Tryf.prog 10 #[.string s, .string head, .int .i64 n] w fun e w' => e = .returned (.bool true) ∧ w' = w := by
  have a1 : ¬ (s.size : Int) < head.size + 3 := by omega
  have a2 : (head.size : Int) ≤ s.size := by omega
  have a3 : head.size < s.size := by omega
  have a4 : s.size - 1 < s.size := by omega
  have a5 : s.size ≤ 2199023255552 := by omega
  have hlen : d.data.toList.length = d.size := Array.length_toList
  have hd3 : 0 < d.size := by omega
  have hd0 : ∀ h : 0 < d.size, (((d[0]'h).toNat : Int) == 45) = false := by
    intro h
    have := HD.out _ (List.getElem_mem (l := d.data.toList) (n := 0) (by omega))
    rw [at_list d 0 h (by omega), beq_eq_false_iff_ne]
    omega
  have hzd : ((d.size : Int) == 0) = false := by
    rw [beq_eq_false_iff_ne]; omega
  have hyd : ¬ d = ByteArray.empty := by
    intro h
    have h2 : 0 < d.size := by omega
    rw [h] at h2; simp at h2
  clear hsz
  go_enter Tryf.func10, Tryf.ntmps10
  go_upto_region 12 with (fail)
  go_wp2
  go_loop [9, 10] (fun u i => ∃ k : Nat, k ≤ d.size ∧ i = .int .i64 k ∧ u = .int .u64 (val (d.data.toList.take k))) (fun _ i => d.size - (intOf i).toNat)
  case atStart => exact ⟨0, Nat.zero_le _, rfl, rfl⟩
  case round =>
    obtain ⟨k, hk, rfl, rfl⟩ := hrel
    by_cases hlt : k < d.size
    · have hlt' : k < d.data.toList.length := by omega
      have hv1 := val_step d.data.toList k hlt'
      have hv2 := val_take_le d.data.toList (d.data.toList.length - (k + 1)) (k + 1) (by omega)
      have hv3 := HV.out
      have hc := HD.out _ (List.getElem_mem hlt')
      rw [← at_list d k hlt hlt'] at hc hv1
      have c1 : (48 : Int) ≤ ((d[k]'hlt).toNat : Int) := by omega
      have c2 : ((d[k]'hlt).toNat : Int) ≤ 57 := by omega
      have c3 : (val (d.data.toList.take k) : Int) * 10 + (((d[k]'hlt).toNat : Int) - 48) ≤ 9223372036854775807 := by omega
      have c4 : ¬ (18446744073709551615 - (((d[k]'hlt).toNat : Int) - 48)) / 10 < (val (d.data.toList.take k) : Int) := by omega
      have HS : Hid ((val (d.data.toList.take (k + 1)) : Int) = (val (d.data.toList.take k) : Int) * 10 + (((d[k]'hlt).toNat : Int) - 48)) := by
        show _ = _; omega
      clear hv1 hv2 hv3 hc hlen
      go_wp2
      go_round
      case rel => exact ⟨k + 1, by omega, by go_num, congrArg (Value.int .u64) HS.out.symm⟩
      case measure => simp [intOf]; omega
    · have hv : (val (d.data.toList.take k) : Int) = n := by
        rw [List.take_of_length_le (by omega), HV.out]; omega
      clear hlen
      go_wp2
      go_ret
      exact ⟨rfl, rfl⟩

set_option maxHeartbeats 400000 in
theorem reads_neg (s head d e : ByteArray) (n : Int) (w : World) (hh : head.size ≤ 1099511627776) (h0 : n < 0) (h1 : -9223372036854775808 ≤ n)
    (hsz : s.size = head.size + d.size + 2) (hd1 : 1 ≤ d.size) (hd2 : e.size ≤ 20) (he1 : 1 ≤ e.size)
    (hb1 : s.extract 0 head.size = head) (hb2 : ∀ h : head.size < s.size, s[head.size]'h = 91) (hb3 : ∀ h : s.size - 1 < s.size, s[s.size - 1]'h = 93)
    (hb4 : s.extract (head.size + 1) (s.size - 1) = d) (hb5 : ∀ h : 0 < d.size, d[0]'h = 45) (hb6 : d.extract 1 d.size = e) (hd6 : d.size ≤ 21) (HD : Hid (∀ c ∈ e.data.toList, 48 ≤ c.toNat ∧ c.toNat ≤ 57)) (HV : Hid (val e.data.toList = n.natAbs)) :
    Calls Tryf.prog 10 #[.string s, .string head, .int .i64 n] w fun e w' => e = .returned (.bool true) ∧ w' = w := by
  have a1 : ¬ (s.size : Int) < head.size + 3 := by omega
  have a2 : (head.size : Int) ≤ s.size := by omega
  have a3 : head.size < s.size := by omega
  have a4 : s.size - 1 < s.size := by omega
  have a5 : s.size ≤ 2199023255552 := by omega
  have hlen : e.data.toList.length = e.size := Array.length_toList
  have hd3 : 0 < d.size := by omega
  have hzd : ((d.size : Int) == 0) = false := by
    rw [beq_eq_false_iff_ne]; omega
  have hyd : ¬ d = ByteArray.empty := by
    intro h
    have h2 : 0 < d.size := by omega
    rw [h] at h2; simp at h2
  have hze : ((e.size : Int) == 0) = false := by
    rw [beq_eq_false_iff_ne]; omega
  have hye : ¬ e = ByteArray.empty := by
    intro h
    have h2 : 0 < e.size := by omega
    rw [h] at h2; simp at h2
  clear hsz
  go_enter Tryf.func10, Tryf.ntmps10
  go_upto_region 12 with (fail)
  go_wp2
  go_loop [9, 10] (fun u i => ∃ k : Nat, k ≤ e.size ∧ i = .int .i64 k ∧ u = .int .u64 (val (e.data.toList.take k))) (fun _ i => e.size - (intOf i).toNat)
  case atStart => exact ⟨0, Nat.zero_le _, rfl, rfl⟩
  case round =>
    obtain ⟨k, hk, rfl, rfl⟩ := hrel
    by_cases hlt : k < e.size
    · have hlt' : k < e.data.toList.length := by omega
      have hv1 := val_step e.data.toList k hlt'
      have hv2 := val_take_le e.data.toList (e.data.toList.length - (k + 1)) (k + 1) (by omega)
      have hv3 := HV.out
      have hc := HD.out _ (List.getElem_mem hlt')
      rw [← at_list e k hlt hlt'] at hc hv1
      have c1 : (48 : Int) ≤ ((e[k]'hlt).toNat : Int) := by omega
      have c2 : ((e[k]'hlt).toNat : Int) ≤ 57 := by omega
      have c3 : (val (e.data.toList.take k) : Int) * 10 + (((e[k]'hlt).toNat : Int) - 48) ≤ 9223372036854775808 := by omega
      have c4 : ¬ (18446744073709551615 - (((e[k]'hlt).toNat : Int) - 48)) / 10 < (val (e.data.toList.take k) : Int) := by omega
      have HS : Hid ((val (e.data.toList.take (k + 1)) : Int) = (val (e.data.toList.take k) : Int) * 10 + (((e[k]'hlt).toNat : Int) - 48)) := by
        show _ = _; omega
      clear hv1 hv2 hv3 hc hlen
      go_wp2
      go_round
      case rel => exact ⟨k + 1, by omega, by go_num, congrArg (Value.int .u64) HS.out.symm⟩
      case measure => simp [intOf]; omega
    · have hv : (val (e.data.toList.take k) : Int) = -n := by
        rw [List.take_of_length_le (by omega), HV.out]; omega
      clear hlen
      have hw1 := wrap_back n h0 h1
      go_wp2
      go_ret
      exact ⟨rfl, rfl⟩

/-- The text head, '[', the numeral of n, ']'. -/
def boxed (l : List UInt8) (n : Int) : List UInt8 := l ++ [91] ++ Lib.itoa n ++ [93]

theorem boxed_size (l : List UInt8) (n : Int) : (str (boxed l n)).size = l.length + (Lib.itoa n).length + 2 := by
  rw [str_size]; simp only [boxed, List.length_append, List.length_cons, List.length_nil]; omega
theorem str_extract (l : List UInt8) (i j : Nat) : (str l).extract i j = str ((l.take j).drop i) := by
  refine eq_str ?_
  rw [ByteArray.data_extract]
  simp [str, List.drop_take]
theorem str_at (l : List UInt8) (k : Nat) (h : k < (str l).size) (h' : k < l.length) : (str l)[k]'h = l[k]'h' := rfl

theorem reads_any (head : ByteArray) (n : Int) (w : World) (hh : head.size ≤ 1099511627776) (hw : (Lit.int .i64 n).wf = true) :
    Calls Tryf.prog 10 #[.string (str (boxed head.data.toList n)), .string head, .int .i64 n] w fun e w' => e = .returned (.bool true) ∧ w' = w := by
  have hb := Go.Extern.FmtText.int_bounds64 hw
  have hlo := hb.1
  have hhi := hb.2.2.1 rfl
  have hH : head.data.toList.length = head.size := Array.length_toList
  have hsz := boxed_size head.data.toList n
  have hT : (boxed head.data.toList n).length = head.size + (Lib.itoa n).length + 2 := by rw [← str_size, hsz, hH]
  rw [hH] at hsz
  have e1 : (str (boxed head.data.toList n)).extract 0 head.size = head := by
    rw [str_extract, List.drop_zero, eq_str (x := head) rfl]
    congr 1
    simp only [boxed, List.append_assoc]
    rw [List.take_append_of_le_length (by rw [str_size, str_list, hH]; exact Nat.le_refl _), List.take_of_length_le (by rw [str_size, str_list]; exact Nat.le_refl _)]
    rfl
  have e2 : ∀ h : head.size < (str (boxed head.data.toList n)).size, (str (boxed head.data.toList n))[head.size]'h = 91 := by
    intro h
    rw [str_at _ _ h (by omega)]
    simp only [boxed, List.append_assoc]
    rw [List.getElem_append_right (by omega)]
    simp [hH]
  have e3 : ∀ h : (str (boxed head.data.toList n)).size - 1 < (str (boxed head.data.toList n)).size, (str (boxed head.data.toList n))[(str (boxed head.data.toList n)).size - 1]'h = 93 := by
    intro h
    rw [str_at _ _ h (by omega)]
    simp only [boxed]
    rw [List.getElem_append_right (by simp only [List.length_append, List.length_cons, List.length_nil]; rw [str_size]; simp only [List.length_append, List.length_cons, List.length_nil]; omega)]
    simp
  have e4 : (str (boxed head.data.toList n)).extract (head.size + 1) ((str (boxed head.data.toList n)).size - 1) = str (Lib.itoa n) := by
    rw [str_extract, hsz]
    congr 1
    simp only [boxed]
    rw [List.take_append_of_le_length (by simp only [List.length_append, List.length_cons, List.length_nil]; omega), List.take_of_length_le (by simp only [List.length_append, List.length_cons, List.length_nil]; omega)]
    rw [List.drop_append_of_le_length (by simp only [List.length_append, List.length_cons, List.length_nil]; omega), List.drop_of_length_le (by simp only [List.length_append, List.length_cons, List.length_nil]; omega)]
    rfl
  by_cases h0 : 0 ≤ n
  · have hi : Lib.itoa n = Lib.decDigits n.toNat := by unfold Lib.itoa; rw [if_neg (by omega)]
    have hl : (Lib.itoa n).length ≤ 20 := by rw [hi, Lib.decDigits_length]; exact Lib.nDigits_le20 _ (by omega)
    have hl1 : 1 ≤ (Lib.itoa n).length := by rw [hi, Lib.decDigits_length]; exact Lib.nDigits_pos _
    exact reads_pos _ head (str (Lib.itoa n)) n w hh h0 (by omega) (by rw [hsz, str_size]) hl1 hl e1 e2 e3 e4
      (by show ∀ c ∈ Lib.itoa n, _; rw [hi]; exact dig_dd _) (by show val (Lib.itoa n) = _; rw [hi]; exact val_dd _)
  · have hi : Lib.itoa n = 45 :: Lib.decDigits n.natAbs := by unfold Lib.itoa; rw [if_pos (by omega)]
    have hl : (Lib.decDigits n.natAbs).length ≤ 20 := by rw [Lib.decDigits_length]; exact Lib.nDigits_le20 _ (by omega)
    have hl1 : 1 ≤ (Lib.decDigits n.natAbs).length := by rw [Lib.decDigits_length]; exact Lib.nDigits_pos _
    have hl2 : (Lib.itoa n).length = (Lib.decDigits n.natAbs).length + 1 := by rw [hi, List.length_cons]
    exact reads_neg _ head (str (Lib.itoa n)) (str (Lib.decDigits n.natAbs)) n w hh (by omega) (by omega) (by rw [hsz, str_size]) (by rw [str_size]; omega) hl hl1 e1 e2 e3 e4
      (by intro h; rw [str_at _ _ h (by omega)]; simp only [hi]; rfl) (by rw [str_extract, str_size, List.take_of_length_le (Nat.le_refl _), hi]; rfl) (by rw [str_size]; omega)
      (dig_dd _) (val_dd _)

end Go.Proofs.Qxb6613650aFmt.ReadsBack
