/-
  Plain facts on decimal numerals: their value read back, byte by byte. No Go text here.
-/
import Derived.Lib.ItoaLen
namespace Go.Proofs.Qxb6613650aFmt.ReadsPlain
open Go

/-- The number that the digits say. -/
def val (l : List UInt8) : Nat := l.foldl (fun u c => u * 10 + (c.toNat - 48)) 0
theorem val_snoc (l : List UInt8) (c : UInt8) : val (l ++ [c]) = val l * 10 + (c.toNat - 48) := by
  unfold val; rw [List.foldl_append]; rfl

theorem dgt_toNat (m : Nat) : (UInt8.ofNat (48 + m % 10)).toNat = 48 + m % 10 := by
  simp only [UInt8.toNat_ofNat']; omega

theorem dd_rec (m : Nat) : Lib.decDigits m = (if m < 10 then [] else Lib.decDigits (m / 10)) ++ [UInt8.ofNat (48 + m % 10)] := by
  by_cases h : m < 10
  · rw [if_pos h, Lib.decDigits_one h, Nat.mod_eq_of_lt h]; rfl
  · rw [if_neg h, Lib.decDigits, dif_neg h]

theorem val_dd (m : Nat) : val (Lib.decDigits m) = m := by
  induction m using Nat.strongRecOn with
  | _ m ih =>
    rw [dd_rec, val_snoc, dgt_toNat]
    by_cases h : m < 10
    · rw [if_pos h]; simp [val]; omega
    · rw [if_neg h, ih (m / 10) (by omega)]; omega

theorem dig_dd (m : Nat) : ∀ c ∈ Lib.decDigits m, 48 ≤ c.toNat ∧ c.toNat ≤ 57 := by
  induction m using Nat.strongRecOn with
  | _ m ih =>
    intro c hc
    rw [dd_rec, List.mem_append, List.mem_singleton] at hc
    rcases hc with hc | rfl
    · by_cases h : m < 10
      · rw [if_pos h] at hc; cases hc
      · rw [if_neg h] at hc; exact ih (m / 10) (by omega) c hc
    · rw [dgt_toNat]; omega

theorem val_step (l : List UInt8) (k : Nat) (h : k < l.length) : val (l.take (k + 1)) = val (l.take k) * 10 + (l[k].toNat - 48) := by
  rw [List.take_succ_eq_append_getElem h, val_snoc]

theorem val_take_le (l : List UInt8) : ∀ j k, k + j = l.length → val (l.take k) ≤ val l
  | 0, k, h => by rw [List.take_of_length_le (by omega)]; exact Nat.le_refl _
  | j + 1, k, h => by
    have h1 := val_take_le l j (k + 1) (by omega)
    have h2 := val_step l k (by omega)
    omega

theorem itoa_inj (a b : Int) (h : Lib.itoa a = Lib.itoa b) : a = b := by
  have key : ∀ n : Nat, (Lib.decDigits n).head? ≠ some 45 := by
    intro n hh
    have hm : (45 : UInt8) ∈ Lib.decDigits n := List.mem_of_mem_head? hh
    have := (dig_dd n 45 hm).1
    simp at this
  unfold Lib.itoa at h
  by_cases ha : a < 0
  · rw [if_pos ha] at h
    by_cases hb : b < 0
    · rw [if_pos hb] at h
      have e := congrArg val (List.cons.inj h).2
      rw [val_dd, val_dd] at e; omega
    · rw [if_neg hb] at h
      exact absurd (by rw [← h]; rfl) (key b.toNat)
  · rw [if_neg ha] at h
    by_cases hb : b < 0
    · rw [if_pos hb] at h
      exact absurd (by rw [h]; rfl) (key a.toNat)
    · rw [if_neg hb] at h
      have e := congrArg val h
      rw [val_dd, val_dd] at e; omega

end Go.Proofs.Qxb6613650aFmt.ReadsPlain
