import Derived.Test.YbulkcuomDoorStr
import Derived.WalkSpells
namespace Go.Proofs.YbulkcuomDoor
open Go.Shelf Go.RowKit

namespace Txt
open Go.Lib
/-- The last r digits of u's numeral. -/
def low (u r : Nat) : List UInt8 := (decDigits u).drop (nDigits u - r)

theorem low_zero (u : Nat) : low u 0 = [] := by simp [low, decDigits_length]
theorem low_full (u : Nat) : low u (nDigits u) = decDigits u := by simp [low]
theorem low_succ (u r : Nat) (h : r < nDigits u) : low u (r + 1) = UInt8.ofNat (48 + u / 10 ^ r % 10) :: low u r := by
  unfold low
  have hl := decDigits_length u
  rw [List.drop_eq_getElem_cons (by omega)]
  have hg := dec_get u (nDigits u - (r + 1)) (by omega)
  rw [List.getElem?_eq_getElem (by omega)] at hg
  rw [Option.some.inj hg]
  unfold digitAt
  rw [show nDigits u - 1 - (nDigits u - (r + 1)) = r by omega, show nDigits u - (r + 1) + 1 = nDigits u - r by omega]
theorem low_length (u r : Nat) (h : r ≤ nDigits u) : (low u r).length = r := by simp [low, decDigits_length]; omega

theorem more (u r : Nat) (h : r + 1 < nDigits u) : 0 < u / 10 ^ r / 10 := by
  rw [Nat.div_div_eq_div_mul, ← Nat.pow_succ]
  exact Nat.div_pos (Nat.le_trans (Nat.pow_le_pow_right (by omega) (by omega)) (nDigits_low u (by omega))) (Nat.pow_pos (by omega))
theorem done (u r : Nat) (h : r + 1 = nDigits u) : u / 10 ^ r / 10 = 0 := by
  rw [Nat.div_div_eq_div_mul, ← Nat.pow_succ, Nat.succ_eq_add_one, h]
  exact Nat.div_eq_of_lt (lt_pow_nDigits u)
end Txt

theorem len43 : Ybad.prog.arrayLen 43 = 20 := by simp [Program.arrayLen, Ybad.underlying43]

theorem slice20 (i : Nat) (hi : i ≤ 19) (g : Nat) (W : World) : (Instr.sliceAt 43 (.pointer (some ⟨g, 0, none⟩)) (some (.int .i64 (i : Int))) none none).run Ybad.prog W = .ok (.slice (some ⟨g, i, none⟩) (20 - i) (20 - i)) W := by
  rw [run_sliceAt_array_l W 43 ⟨g, 0, none⟩ (by simp [Program.arrayLen, Program.elem, Ybad.underlying43]) .i64 (i : Int) (by omega) (by rw [len43]; omega)]
  have h20 : ¬ 20 = i := by omega
  rw [len43]
  go_simp

open Txt in
theorem next_low (u r i q : Nat) (cs : Array Value) (hcs : cs.size = 20) (hir : i + 1 + r = 20) (hr : r < Lib.nDigits u) (hq : q = u / 10 ^ r) (hd : cs.toList.drop (i + 1) = Lib.byteCells (low u r)) (_ : True) :
    (cs.setIfInBounds i (.int .u8 (48 + (q : Int) % 10))).toList.drop i = Lib.byteCells (low u (r + 1)) := by
  rw [low_succ u r hr, ← hq]
  rw [List.drop_eq_getElem_cons (by simp; omega)]
  simp only [Array.toList_setIfInBounds, List.getElem_set_self, Lib.byteCells, List.map_cons]
  rw [List.drop_set_of_lt (by omega), hd, Lib.byteCells]
  congr 2
  simp
  omega

theorem news_cells (w : World) (cs : Array Value) (i : Nat) (news : List Value) (h : cs.toList.drop i = news) (j : Nat) (u : Value) (hu : news[j]? = some u) :
    (w.alloc (.cells cs 43)).cell? ((⟨w.heap.size, i, none⟩ : Addr).add j) = some u := by
  have hadd : (⟨w.heap.size, i, none⟩ : Addr).add j = ⟨w.heap.size, i + j, none⟩ := by unfold Addr.add; split <;> simp_all
  rw [hadd, cell_of_row _ w.heap.size (i + j) cs 43 (0, 0) (heap_alloc_new w _)]
  rw [← h, List.getElem?_drop] at hu
  simpa using hu

open Txt in
set_option maxHeartbeats 1000000 in
set_option maxRecDepth 100000 in
theorem dec_any (B n u : Nat) (hu64 : u < 18446744073709551616) (sv : Value) (xs : List Value) (w : World) (hown : w.ownsRow B 5 1 sv n xs) (hBw : B ≤ w.heap.size) (hlim : n + 20 ≤ 140737488355328) :
    Calls Ybad.prog 11 #[sv, .int .u64 u] w fun e w' => ∃ v', e = .returned v' ∧ w'.ownsRow B 5 1 v' (n + (Lib.decDigits u).length) (xs ++ Lib.byteCells (Lib.decDigits u)) ∧ Below B w w' := by
  obtain ⟨i0, hi, hz0, hz1, hz2⟩ := info_parts infoByte
  go_enter Ybad.func11, Ybad.ntmps11
  go_wp2_with fail
  go_loopw [1, 6] (fun x m wr => ∃ (i r q : Nat) (cs : Array Value), i + 1 + r = 20 ∧ r < Lib.nDigits u ∧ x = .int .u64 q ∧ m = .int .i64 ((i : Int) + 1) ∧ q = u / 10 ^ r ∧ cs.size = 20 ∧ cs.toList.drop (i + 1) = Lib.byteCells (low u r) ∧ wr = w.alloc (.cells cs 43)) (fun _ m _ => (intOf m).toNat)
  case atStart => exact ⟨19, 0, u, _, rfl, Lib.nDigits_pos u, rfl, rfl, by simp, rfl, by rw [low_zero]; rfl, rfl⟩
  case round =>
    obtain ⟨i, r, q, cs, hir, hr, rfl, rfl, hq, hcs, hdrop, hw⟩ := hrel
    have hi19 : i ≤ 19 := by omega
    have hq64 : q < 18446744073709551616 := by rw [hq]; exact Nat.lt_of_le_of_lt (Nat.div_le_self _ _) hu64
    have HQ := Lib.hid hq
    have HI := Lib.hid hir
    have HD := Lib.hid hdrop
    have HC := Lib.hid hcs
    subst hw
    obtain ⟨vi, hvi⟩ : ∃ v, cs[i]? = some v := ⟨cs[i]'(by omega), Array.getElem?_eq_getElem (by omega)⟩
    clear hq hir hdrop hcs
    have hnxt := fun h => next_low u r i q cs HC.out HI.out hr HQ.out HD.out h
    have HN := Lib.hid (hnxt trivial)
    clear hnxt
    by_cases hl : r + 1 = Lib.nDigits u
    · have hq10 : ((q : Int) / 10 == 0) = true := by have := done u r hl; rw [← HQ.out] at this; simp; omega
      have hsl := slice20 i hi19 w.heap.size
      have HL := Lib.hid hl
      clear hl
      have e1 : low u (r + 1) = Lib.decDigits u := by rw [HL.out, low_full]
      have e2 : (Lib.decDigits u).length = 20 - i := by have := HL.out; have := HI.out; rw [Lib.decDigits_length]; omega
      have hne := news_cells w _ i _ HN.out
      rw [e1] at hne
      have HE := Lib.hid hne
      have E2 := Lib.hid e2
      clear e1 e2 hne HN
      go_wp2_with (at_builtin; refine wpList_append_own _ rfl _ _ 22 rfl B 5 i0 (.int .u8 0) 1 1 Ybad.underlying22 hi hz0 hz1 hz2 rfl (by decide) _ _ _ rfl (hown.alloc _) ⟨w.heap.size, i, none⟩ (20 - i) (20 - i) (Lib.byteCells (Lib.decDigits u)) rfl (by rw [Lib.byteCells_length, E2.out, Nat.mul_one]) HE.out (by intro u' hu'; simp [Lib.byteCells] at hu'; obtain ⟨c, -, rfl⟩ := hu'; rfl) (by unfold maxLen; omega) (by omega) (by simp; omega) ?_)
      intro v2 w2 hown2 hgrow _
      go_wp2
      go_ret
      exact ⟨v2, rfl, by rw [E2.out]; exact hown2, ((Below.refl _ _).alloc hBw _).grown hgrow (by simp; omega) (fun j hj => (hown.lt j hj).1)⟩
    · have hq10 : ((q : Int) / 10 == 0) = false := by have := more u r (by omega); rw [← HQ.out] at this; simp; omega
      have hi0 : 0 < i := by have := HI.out; have := nDig20 u hu64; omega
      go_wp2
      go_roundw
      case rel => exact ⟨i - 1, r + 1, q / 10, _, by have := HI.out; omega, by omega, by go_num, by go_num, by rw [HQ.out, Nat.div_div_eq_div_mul, ← Nat.pow_succ], by rw [Array.size_setIfInBounds]; exact HC.out, by rw [show i - 1 + 1 = i by omega]; exact HN.out, rfl⟩
      case measure => simp [intOf]
end Go.Proofs.YbulkcuomDoor
