import Derived.Lib.ItoaNum
import Derived.Lib.AppendIntMem
namespace Go.Proofs.YbulkcuomDoor.Txt
open Go.Lib

theorem nDig20 (u : Nat) (h : u < 18446744073709551616) : nDigits u ≤ 20 := by
  by_cases h1 : 1 ≤ u
  · have := numDigits_eq u h1 h
    split at this <;> omega
  · rw [nDigits_small (by omega)]; omega

/-- The decimal entries z 0, .., z (k-1), joined by commas. -/
def acc (z : Nat → Nat) : Nat → List UInt8
  | 0 => []
  | k + 1 => acc z k ++ ((if k = 0 then [] else [44]) ++ decDigits (z k))

/-- The text of a vector. -/
def text (z : Nat → Nat) (n : Nat) : List UInt8 := 91 :: acc z n ++ [93]

/-- Where entry k begins. -/
def pos (z : Nat → Nat) (k : Nat) : Nat := (acc z k).length + (if k = 0 then 0 else 1)

theorem acc_len_le (z : Nat → Nat) (hz : ∀ i, z i < 18446744073709551616) (k : Nat) : (acc z k).length ≤ 21 * k := by
  induction k with
  | zero => simp [acc]
  | succ k ih =>
    have h20 := nDig20 (z k) (hz k)
    simp only [acc, List.length_append, decDigits_length]
    split <;> simp <;> omega

theorem pos_succ (z : Nat → Nat) (k : Nat) : pos z (k + 1) = pos z k + nDigits (z k) + 1 := by
  simp only [pos, acc, List.length_append, decDigits_length]
  split <;> simp <;> omega

theorem acc_succ_len (z : Nat → Nat) (k : Nat) : (acc z (k + 1)).length = pos z k + nDigits (z k) := by
  simp only [pos, acc, List.length_append, decDigits_length]
  split <;> simp <;> omega

theorem acc_prefix (z : Nat → Nat) (k m : Nat) : ∃ r, acc z (k + m) = acc z k ++ r := by
  induction m with
  | zero => exact ⟨[], by simp⟩
  | succ m ih =>
    obtain ⟨r, hr⟩ := ih
    exact ⟨r ++ ((if k + m = 0 then [] else [44]) ++ decDigits (z (k + m))), by rw [← Nat.add_assoc, acc, hr, List.append_assoc]⟩

theorem acc_get_old (z : Nat → Nat) (k n i : Nat) (hk : k ≤ n) (hi : i < (acc z k).length) : (acc z n)[i]? = (acc z k)[i]? := by
  obtain ⟨r, hr⟩ := acc_prefix z k (n - k)
  rw [show k + (n - k) = n by omega] at hr
  rw [hr, List.getElem?_append_left hi]

/-- The digit at place d of u's numeral. -/
def digitAt (u d : Nat) : Nat := u / 10 ^ (nDigits u - 1 - d) % 10

theorem dec_get (u d : Nat) (h : d < nDigits u) : (decDigits u)[d]? = some (UInt8.ofNat (48 + digitAt u d)) := by
  rw [decDigits_eq]
  simp [h, dg, digitAt]

theorem acc_digit (z : Nat → Nat) (n k d : Nat) (hk : k < n) (hd : d < nDigits (z k)) : (acc z n)[pos z k + d]? = some (UInt8.ofNat (48 + digitAt (z k) d)) := by
  rw [acc_get_old z (k + 1) n _ (by omega) (by rw [acc_succ_len]; omega)]
  unfold acc pos
  rw [List.getElem?_append_right (by omega)]
  rw [show (acc z k).length + (if k = 0 then 0 else 1) + d - (acc z k).length = (if k = 0 then 0 else 1) + d by omega]
  split
  · rw [Nat.zero_add, List.nil_append]; exact dec_get _ _ hd
  · rw [show 1 + d = d + 1 by omega, List.singleton_append, List.getElem?_cons_succ]; exact dec_get _ _ hd

theorem acc_comma (z : Nat → Nat) (n k : Nat) (hk : k + 1 < n) : (acc z n)[pos z k + nDigits (z k)]? = some 44 := by
  rw [acc_get_old z (k + 2) n _ (by omega) (by rw [acc_succ_len, pos_succ]; omega)]
  rw [← acc_succ_len]
  rw [acc, List.getElem?_append_right (by omega), Nat.sub_self]
  simp

theorem nDigits_low (u : Nat) (h : 1 < nDigits u) : 10 ^ (nDigits u - 1) ≤ u := by
  induction u using Nat.strongRecOn with
  | ind u ih =>
    by_cases h10 : u < 10
    · rw [nDigits_small h10] at h; omega
    · have hb := nDigits_big h10
      by_cases h2 : u / 10 < 10
      · rw [nDigits_small h2] at hb
        rw [hb]; simp; omega
      · have := ih (u / 10) (by omega) (by rw [nDigits_big h2]; have := nDigits_pos (u / 10 / 10); omega)
        have hp := nDigits_pos (u / 10)
        rw [hb, show nDigits (u / 10) + 1 - 1 = (nDigits (u / 10) - 1) + 1 by omega, Nat.pow_succ]
        omega

/-- What the reader has gathered behind d digits. -/
def cur (u d : Nat) : Nat := u / 10 ^ (nDigits u - d)

theorem cur_zero (u : Nat) : cur u 0 = 0 := Nat.div_eq_of_lt (by simpa using lt_pow_nDigits u)
theorem cur_full (u : Nat) : cur u (nDigits u) = u := by simp [cur]
theorem cur_le (u d : Nat) : cur u d ≤ u := Nat.div_le_self _ _
theorem cur_succ (u d : Nat) (h : d < nDigits u) : cur u (d + 1) = cur u d * 10 + digitAt u d := by
  unfold cur digitAt
  rw [show nDigits u - d = (nDigits u - 1 - d) + 1 by omega, show nDigits u - (d + 1) = nDigits u - 1 - d by omega, Nat.pow_succ, ← Nat.div_div_eq_div_mul]
  omega
theorem cur_pos (u d : Nat) (h0 : 0 < d) (h : d < nDigits u) : 0 < cur u d := by
  unfold cur
  have h1 := nDigits_low u (by omega)
  exact Nat.div_pos (Nat.le_trans (Nat.pow_le_pow_right (by omega) (by omega)) h1) (Nat.pow_pos (by omega))
theorem digitAt_lt (u d : Nat) : digitAt u d < 10 := Nat.mod_lt _ (by omega)

end Go.Proofs.YbulkcuomDoor.Txt
