import Derived.Lib.ItoaLen
namespace Go.Proofs.Qxb6602091aDoor
open Go.Lib

/-! ### Plain: a decimal numeral read back -/
/-- The number that the digits spell, read on from a. -/
def rd (a : Nat) : List UInt8 → Nat
  | [] => a
  | c :: l => rd (a * 10 + (c.toNat - 48)) l

theorem rd_append (l m : List UInt8) (a : Nat) : rd a (l ++ m) = rd (rd a l) m := by
  induction l generalizing a with
  | nil => rfl
  | cons c l ih => exact ih _

theorem digit (i : Nat) (h : i < 10) : (UInt8.ofNat (48 + i)).toNat = 48 + i := by
  rw [UInt8.toNat_ofNat']
  omega

theorem rd_dec (u : Nat) : rd 0 (decDigits u) = u := by
  induction u using Nat.strongRecOn with
  | _ u ih =>
    by_cases h : u < 10
    · rw [decDigits, dif_pos h]
      show 0 * 10 + ((UInt8.ofNat (48 + u)).toNat - 48) = u
      rw [digit u h]
      omega
    · rw [decDigits, dif_neg h, rd_append, ih (u / 10) (by omega)]
      show u / 10 * 10 + ((UInt8.ofNat (48 + u % 10)).toNat - 48) = u
      rw [digit _ (by omega)]
      omega

theorem dec_range (u : Nat) : ∀ c ∈ decDigits u, 48 ≤ c.toNat ∧ c.toNat ≤ 57 := by
  induction u using Nat.strongRecOn with
  | _ u ih =>
    intro c hc
    by_cases h : u < 10
    · rw [decDigits, dif_pos h] at hc
      rw [List.mem_singleton.1 hc, digit u h]
      omega
    · rw [decDigits, dif_neg h] at hc
      rcases List.mem_append.1 hc with hc | hc
      · exact ih (u / 10) (by omega) c hc
      · rw [List.mem_singleton.1 hc, digit _ (by omega)]
        omega

theorem dec_pos (u : Nat) : 1 ≤ (decDigits u).length := by rw [decDigits_length]; exact nDigits_pos u
theorem dec_le (u : Nat) (h : u < 18446744073709551616) : (decDigits u).length ≤ 20 := by rw [decDigits_length]; exact nDigits_le20 u h

theorem dec_head (u : Nat) (hu : 1 ≤ u) : ∃ c l, decDigits u = c :: l ∧ c.toNat ≠ 48 := by
  induction u using Nat.strongRecOn with
  | _ u ih =>
    by_cases h : u < 10
    · refine ⟨_, _, by rw [decDigits, dif_pos h], ?_⟩
      rw [digit u h]
      omega
    · obtain ⟨c, l, e, hc⟩ := ih (u / 10) (by omega) (by omega)
      exact ⟨c, l ++ [UInt8.ofNat (48 + u % 10)], by rw [decDigits, dif_neg h, e]; rfl, hc⟩

theorem rd_mono (l : List UInt8) (a : Nat) : a ≤ rd a l := by
  induction l generalizing a with
  | nil => exact Nat.le_refl _
  | cons c l ih => exact Nat.le_trans (by omega) (ih _)

theorem rd_take_succ (l : List UInt8) (k : Nat) (h : k < l.length) : rd 0 (l.take (k + 1)) = rd 0 (l.take k) * 10 + (l[k].toNat - 48) := by
  rw [List.take_succ_eq_append_getElem h, rd_append]; rfl

theorem rd_take_le (l : List UInt8) (k : Nat) : rd 0 (l.take k) ≤ rd 0 l := by
  have h : rd 0 l = rd 0 (l.take k ++ l.drop k) := by rw [List.take_append_drop]
  rw [h, rd_append]
  exact rd_mono _ _
end Go.Proofs.Qxb6602091aDoor
