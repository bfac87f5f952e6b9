import Derived.Lib.EndianZ
namespace Go.Proofs.Ybulkcuuy

/-- The number that the first t bytes from place s on spell, the greatest first. -/
def part (z : Nat → Nat) (s : Nat) : Nat → Nat
  | 0 => 0
  | t + 1 => part z s t * 256 + z (s + t)

theorem part_lt (z : Nat → Nat) (hz : ∀ i, z i < 256) (s t : Nat) : part z s t < 256 ^ t := by
  induction t with
  | zero => simp [part]
  | succ t ih => have := hz (s + t); rw [part, Nat.pow_succ]; omega

/-- Word i of an id. -/
def word (z : Nat → Nat) (i : Nat) : Nat := part z (8 * i) 8

theorem word_lt (z : Nat → Nat) (hz : ∀ i, z i < 256) (i : Nat) : word z i < 18446744073709551616 := part_lt z hz (8 * i) 8

theorem word_beZ (z : Nat → Nat) (i : Nat) : Lib.beZ [(z (8 * i) : Int), z (8 * i + 1), z (8 * i + 2), z (8 * i + 3), z (8 * i + 4), z (8 * i + 5), z (8 * i + 6), z (8 * i + 7)] = (word z i : Int) := by
  simp only [Lib.beZ, Lib.beFromZ, word, part, Nat.add_zero]
  omega

def sgn (p q : Nat) : Int := if p < q then -1 else if q < p then 1 else 0
theorem sgn_zero {p q : Nat} : sgn p q = 0 ↔ p = q := by
  unfold sgn; split
  · omega
  · split <;> omega

/-- The first place among n from i on at which x and y part decides. -/
def cmpFrom (x y : Nat → Nat) : Nat → Nat → Int
  | _, 0 => 0
  | i, n + 1 => if x i = y i then cmpFrom x y (i + 1) n else sgn (x i) (y i)

theorem cmp_append (x y : Nat → Nat) (m n : Nat) : ∀ s, cmpFrom x y s (m + n) = if cmpFrom x y s m = 0 then cmpFrom x y (s + m) n else cmpFrom x y s m := by
  induction m with
  | zero => intro s; simp [cmpFrom]
  | succ m ih =>
    intro s
    rw [show m + 1 + n = (m + n) + 1 by omega, cmpFrom, cmpFrom]
    by_cases h : x s = y s
    · rw [if_pos h, if_pos h, ih, show s + 1 + m = s + (m + 1) by omega]
    · rw [if_neg h, if_neg h, if_neg (fun e => h (sgn_zero.1 e))]

theorem sgn_step (p q x y : Nat) (hx : x < 256) (hy : y < 256) : sgn (p * 256 + x) (q * 256 + y) = if sgn p q = 0 then sgn x y else sgn p q := by
  unfold sgn
  by_cases h1 : p < q
  · rw [if_pos h1, if_pos (by omega)]; simp
  · by_cases h2 : q < p
    · rw [if_neg h1, if_pos h2, if_neg (by omega), if_pos (by omega)]; simp
    · rw [if_neg h1, if_neg h2, if_pos rfl]
      by_cases h3 : x < y
      · rw [if_pos h3, if_pos (by omega)]
      · rw [if_neg h3, if_neg (by omega)]
        by_cases h4 : y < x
        · rw [if_pos h4, if_pos (by omega)]
        · rw [if_neg h4, if_neg (by omega)]

theorem cmp_one (x y : Nat → Nat) (s : Nat) : cmpFrom x y s 1 = sgn (x s) (y s) := by
  rw [cmpFrom, cmpFrom]
  by_cases h : x s = y s
  · rw [if_pos h]; exact (sgn_zero.2 h).symm
  · rw [if_neg h]

theorem cmp_part (x y : Nat → Nat) (hx : ∀ i, x i < 256) (hy : ∀ i, y i < 256) (s t : Nat) : cmpFrom x y s t = sgn (part x s t) (part y s t) := by
  induction t with
  | zero => rfl
  | succ t ih =>
    rw [cmp_append, ih, cmp_one, part, part, sgn_step _ _ _ _ (hx _) (hy _)]

/-- Comparing word by word is comparing byte by byte. -/
theorem cmp_words (x y : Nat → Nat) (hx : ∀ i, x i < 256) (hy : ∀ i, y i < 256) (n : Nat) : cmpFrom (word x) (word y) 0 n = cmpFrom x y 0 (n * 8) := by
  induction n with
  | zero => simp [cmpFrom]
  | succ n ih =>
    rw [cmp_append, ih, cmp_one, show (n + 1) * 8 = n * 8 + 8 by omega, cmp_append, cmp_part x y hx hy (0 + n * 8) 8]
    unfold word
    rw [show 8 * (0 + n) = 0 + n * 8 by omega]

/-- What stands behind j bytes in group i. -/
def sofar (z : Nat → Nat) (j i : Nat) : Nat := part z (8 * i) (min 8 (j - 8 * i))

theorem sofar_zero (z : Nat → Nat) (i : Nat) : sofar z 0 i = 0 := by simp [sofar, part]
theorem sofar_end (z : Nat → Nat) (i : Nat) (h : i < 4) : sofar z 32 i = word z i := by
  unfold sofar word
  rw [show min 8 (32 - 8 * i) = 8 by omega]
theorem sofar_other (z : Nat → Nat) (j i : Nat) (h : i ≠ j / 8) : sofar z (j + 1) i = sofar z j i := by
  unfold sofar
  rw [show min 8 (j + 1 - 8 * i) = min 8 (j - 8 * i) by omega]
theorem sofar_here (z : Nat → Nat) (j : Nat) : sofar z (j + 1) (j / 8) = sofar z j (j / 8) * 256 + z j := by
  unfold sofar
  rw [show min 8 (j + 1 - 8 * (j / 8)) = (j - 8 * (j / 8)) + 1 by omega, show min 8 (j - 8 * (j / 8)) = j - 8 * (j / 8) by omega, part]
  congr 2
  omega
theorem sofar_small (z : Nat → Nat) (hz : ∀ i, z i < 256) (j : Nat) : sofar z j (j / 8) < 72057594037927936 := by
  unfold sofar
  rw [show min 8 (j - 8 * (j / 8)) = j - 8 * (j / 8) by omega]
  exact Nat.lt_of_lt_of_le (part_lt z hz _ _) (Nat.le_trans (Nat.pow_le_pow_right (by omega) (show j - 8 * (j / 8) ≤ 7 by omega)) (by decide))
theorem sofar_lt (z : Nat → Nat) (hz : ∀ i, z i < 256) (j i : Nat) : sofar z j i < 18446744073709551616 := by
  unfold sofar
  exact Nat.lt_of_lt_of_le (part_lt z hz _ _) (Nat.le_trans (Nat.pow_le_pow_right (by omega) (show min 8 (j - 8 * i) ≤ 8 by omega)) (by decide))
end Go.Proofs.Ybulkcuuy
