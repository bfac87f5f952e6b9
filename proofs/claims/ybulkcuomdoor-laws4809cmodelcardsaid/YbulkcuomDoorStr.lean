import Derived.Test.YbulkcuomDoorShelf
import Derived.Test.YbulkcuomDoorPlain
import Derived.Lib.AppendIntMem
import Derived.Lib.Slices
import Derived.Lib.Hide
import Derived.Laws.IdiomStrings
import Derived.OwnWalk
import Derived.WalkKit
import Derived.BigCall
namespace Go.Proofs.YbulkcuomDoor
open Go.Shelf Go.RowKit

/-- internal/strconv.AppendUint at base 10, every uint64. -/
theorem appendIn (B n u : Nat) (hu64 : u < 18446744073709551616) (sv : Value) (xs : List Value) (w : World) (hown : w.ownsRow B 5 1 sv n xs) (hBw : B ≤ w.heap.size) (hlim : n + 20 ≤ 140737488355328)
    (htab : Lib.TabIs Ybad.prog w tabName .u64 Lib.pow10Tab) :
    Calls Ybad.prog 28 #[sv, .int .u64 u, .int .i64 10] w fun e w' => ∃ v', e = .returned v' ∧ w'.ownsRow B 5 1 v' (n + (Lib.decDigits u).length) (xs ++ Lib.byteCells (Lib.decDigits u)) ∧ Below B w w' := by
  by_cases h : u < 100
  · exact (Ybad.internal_strconv_AppendUint_10_small B n u h sv xs w hown hBw hlim).mono fun e w' ⟨v', h1, h2, h3, _⟩ => ⟨v', h1, h2, h3⟩
  · exact (Ybad.internal_strconv_AppendUint_10_big B n u (by omega) hu64 sv xs w hown hBw hlim htab).mono fun e w' ⟨v', h1, h2, h3, _⟩ => ⟨v', h1, h2, h3⟩

set_option maxHeartbeats 400000 in
/-- strconv.AppendUint at base 10. -/
theorem appendUint (B n u : Nat) (hu64 : u < 18446744073709551616) (sv : Value) (xs : List Value) (w : World) (hown : w.ownsRow B 5 1 sv n xs) (hBw : B ≤ w.heap.size) (hlim : n + 20 ≤ 140737488355328)
    (htab : Lib.TabIs Ybad.prog w tabName .u64 Lib.pow10Tab) :
    Calls Ybad.prog 17 #[sv, .int .u64 u, .int .i64 10] w fun e w' => ∃ v', e = .returned v' ∧ w'.ownsRow B 5 1 v' (n + (Lib.decDigits u).length) (xs ++ Lib.byteCells (Lib.decDigits u)) ∧ Below B w w' := by
  go_enter Ybad.func17, Ybad.ntmps17
  go_wp2_with (go_at_call 28; refine (appendIn B n u hu64 sv xs w hown hBw hlim htab).mono ?_; rintro e w1 ⟨v1, rfl, hown1, hnx1⟩)
  go_ret
  exact ⟨v1, rfl, hown1, hnx1⟩

theorem infoByte : (Ybad.prog.info? 5).map (fun i => (i.zero, i.size, i.bytes)) = some (some (.int .u8 0), 1, 1) := by kernel_rfl

open Txt in
theorem next_comma (z : Nat → Nat) (k : Nat) (h0 : 0 < k) {B : Nat} {w : World} {v : Value} (h : w.ownsRow B 5 1 v (1 + (acc z k).length + 1 + (Lib.decDigits (z k)).length) (Lib.byteCells (91 :: acc z k) ++ [Value.int .u8 44] ++ Lib.byteCells (Lib.decDigits (z k)))) :
    w.ownsRow B 5 1 v (1 + (acc z (k + 1)).length) (Lib.byteCells (91 :: acc z (k + 1))) := by
  have e1 : 1 + (acc z k).length + 1 + (Lib.decDigits (z k)).length = 1 + (acc z (k + 1)).length := by
    simp only [acc, if_neg (show ¬ k = 0 by omega), List.length_append, List.length_cons, List.length_nil]; omega
  have e2 : Lib.byteCells (91 :: acc z k) ++ [Value.int .u8 44] ++ Lib.byteCells (Lib.decDigits (z k)) = Lib.byteCells (91 :: acc z (k + 1)) := by
    simp [acc, if_neg (show ¬ k = 0 by omega), Lib.byteCells]
  rwa [e1, e2] at h

open Txt in
theorem next_first (z : Nat → Nat) (k : Nat) (h0 : ¬ 0 < k) {B : Nat} {w : World} {v : Value} (h : w.ownsRow B 5 1 v (1 + (acc z k).length + (Lib.decDigits (z k)).length) (Lib.byteCells (91 :: acc z k) ++ Lib.byteCells (Lib.decDigits (z k)))) :
    w.ownsRow B 5 1 v (1 + (acc z (k + 1)).length) (Lib.byteCells (91 :: acc z (k + 1))) := by
  obtain rfl : k = 0 := by omega
  have e1 : 1 + (acc z 0).length + (Lib.decDigits (z 0)).length = 1 + (acc z (0 + 1)).length := by simp [acc]
  have e2 : Lib.byteCells (91 :: acc z 0) ++ Lib.byteCells (Lib.decDigits (z 0)) = Lib.byteCells (91 :: acc z (0 + 1)) := by simp [acc, Lib.byteCells]
  rwa [e1, e2] at h

open Txt in
theorem last_row (z : Nat → Nat) (k : Nat) {B : Nat} {w : World} {v : Value} (h : w.ownsRow B 5 1 v (1 + (acc z k).length + 1) (Lib.byteCells (91 :: acc z k) ++ [Value.int .u8 93])) :
    w.ownsRow B 5 1 v (text z k).length (Lib.byteCells (text z k)) := by
  have e1 : 1 + (acc z k).length + 1 = (text z k).length := by simp [text]; omega
  have e2 : Lib.byteCells (91 :: acc z k) ++ [Value.int .u8 93] = Lib.byteCells (text z k) := by simp [text, Lib.byteCells]
  rwa [e1, e2] at h

theorem own_form {B n : Nat} {w : World} {v : Value} {xs : List Value} (h : w.ownsRow B 5 1 v n xs) (hp : 0 < n) : ∃ g cap, v = .slice (some ⟨g, 0, none⟩) n cap := by
  rcases h.2 with ⟨-, h0⟩ | ⟨g, cap, cur, rfl, -, -, -, -, -, -⟩
  · omega
  · exact ⟨g, cap, rfl⟩

open Txt in
set_option maxHeartbeats 1000000 in
set_option maxRecDepth 100000 in
/-- (Vector).String at a slice with an element. -/
theorem string_pos (b off n cap : Nat) (z : Nat → Nat) (hn0 : 0 < n) (hn : n ≤ 1024) (hz : ∀ i, z i < 18446744073709551616) (w : World)
    (hc : ∀ i, i < n → w.cell? ⟨b, off + i, none⟩ = some (.int .u64 (z i))) (hb : b < w.heap.size)
    (htab : Lib.TabIs Ybad.prog w tabName .u64 Lib.pow10Tab) :
    Calls Ybad.prog 10 #[.slice (some ⟨b, off, none⟩) n cap] w fun e w' => e = .returned (.string ⟨(text z n).toArray⟩) ∧ Below w.heap.size w w' := by
  obtain ⟨i0, hi, hz0, hz1, hz2⟩ := info_parts infoByte
  have hT := Lib.tabBelow_of_tabIs htab
  clear htab
  go_enter Ybad.func10, Ybad.ntmps10
  go_wp2_with fail
  go_loopw [3, 9] (fun v i wr => ∃ k : Nat, k ≤ n ∧ i = .int .i64 k ∧ wr.ownsRow w.heap.size 5 1 v (1 + (acc z k).length) (Lib.byteCells (91 :: acc z k)) ∧ Below w.heap.size w wr) (fun _ i _ => n - (intOf i).toNat)
  case atStart => exact ⟨0, Nat.zero_le _, rfl, World.ownsRow_lit w #[.int .u8 91] 1 (Nat.le_refl _) (by decide) rfl, (Below.refl _ _).alloc (Nat.le_refl _) _⟩
  case round =>
    obtain ⟨k, hk, rfl, hown, hnx⟩ := hrel
    have hal := acc_len_le z hz k
    by_cases hlt : k < n
    · have hcx : wr.cell? ⟨b, off + k, none⟩ = some (.int .u64 (z k)) := (hnx.cell (by exact hb)).trans (hc k hlt)
      have hzk := hz k
      clear hc
      by_cases h0 : 0 < k
      · go_wp2_with (at_builtin; refine wpList_append_own _ rfl _ _ 22 rfl w.heap.size 5 i0 (.int .u8 0) 1 1 Ybad.underlying22 hi hz0 hz1 hz2 rfl (by decide) _ _ _ rfl (hown.alloc _) ⟨wr.heap.size, 0, none⟩ 1 1 [Value.int .u8 44] rfl rfl (by intro j u' hj; match j, hj with | 0, hj => simp at hj; subst hj; simp [Addr.add]) (by intro u' hu'; simp at hu'; subst hu'; rfl) (by unfold maxLen; omega) (by omega) (by have := hnx.size; simp; omega) ?_)
        intro v2 w2 hown2 hgrow _
        have hnx2 : Below w.heap.size w w2 := (hnx.alloc (by have := hnx.size; omega) _).grown hgrow (by have := hnx.size; simp; omega) (fun j hj => (hown.lt j hj).1)
        go_wp2_with (go_at_call 17; refine (appendUint w.heap.size _ (z k) hzk v2 _ w2 hown2 (by have := hnx2.size; omega) (by omega) (hT.on hnx2).here).mono ?_; rintro e w3 ⟨v3, rfl, hown3, hnx3⟩)
        go_roundw
        case rel => exact ⟨k + 1, by omega, by go_num, next_comma z k h0 hown3, hnx2.trans hnx3⟩
        case measure => simp [intOf]; omega
      · go_wp2_with (go_at_call 17; refine (appendUint w.heap.size _ (z k) hzk _ _ _ hown (by have := hnx.size; omega) (by omega) (hT.on hnx).here).mono ?_; rintro e w3 ⟨v3, rfl, hown3, hnx3⟩)
        go_roundw
        case rel => exact ⟨k + 1, by omega, by go_num, next_first z k h0 hown3, hnx.trans hnx3⟩
        case measure => simp [intOf]; omega
    · have hkn : k = n := by omega
      subst hkn
      go_wp2_with (at_builtin; refine wpList_append_own _ rfl _ _ 22 rfl w.heap.size 5 i0 (.int .u8 0) 1 1 Ybad.underlying22 hi hz0 hz1 hz2 rfl (by decide) _ _ _ rfl (hown.alloc _) ⟨wr.heap.size, 0, none⟩ 1 1 [Value.int .u8 93] rfl rfl (by intro j u' hj; match j, hj with | 0, hj => simp at hj; subst hj; simp [Addr.add]) (by intro u' hu'; simp at hu'; subst hu'; rfl) (by unfold maxLen; omega) (by omega) (by have := hnx.size; simp; omega) ?_)
      intro v2 w2 hown2 hgrow _
      have hnx2 : Below w.heap.size w w2 := (hnx.alloc (by have := hnx.size; omega) _).grown hgrow (by have := hnx.size; simp; omega) (fun j hj => (hown.lt j hj).1)
      have hown2 := last_row z k hown2
      obtain ⟨l, hl⟩ : ∃ l, l = text z k := ⟨_, rfl⟩
      have hpos : 0 < l.length := by rw [hl]; simp [text]
      rw [← hl] at hown2
      have HL := Lib.hid hl
      clear hl
      obtain ⟨g, cp, hv⟩ := own_form hown2 hpos
      subst hv
      have hcv := run_convert_bytes_back (P := Ybad.prog) w2 22 9 5 ⟨g, 0, none⟩ cp l Ybad.underlying22 Ybad.underlying5 Ybad.underlying9 (fun j hj => hown2.cells (g := g) rfl j _ (by simp [Lib.byteCells, hj]))
      go_wp2
      go_ret
      have hl := HL.out
      subst hl
      exact ⟨rfl, hnx2⟩

open Txt in
set_option maxHeartbeats 1000000 in
set_option maxRecDepth 100000 in
/-- (Vector).String at a slice without an element (nil too). -/
theorem string_zero (a : Option Addr) (cap : Nat) (z : Nat → Nat) (w : World) :
    Calls Ybad.prog 10 #[.slice a 0 cap] w fun e w' => e = .returned (.string ⟨(text z 0).toArray⟩) ∧ Below w.heap.size w w' := by
  obtain ⟨i0, hi, hz0, hz1, hz2⟩ := info_parts infoByte
  go_enter Ybad.func10, Ybad.ntmps10
  go_wp2_with fail
  go_loopw [3, 9] (fun v i wr => i = .int .i64 0 ∧ wr.ownsRow w.heap.size 5 1 v (1 + (acc z 0).length) (Lib.byteCells (91 :: acc z 0)) ∧ Below w.heap.size w wr) (fun _ i _ => 0)
  case atStart => exact ⟨rfl, World.ownsRow_lit w #[.int .u8 91] 1 (Nat.le_refl _) (by decide) rfl, (Below.refl _ _).alloc (Nat.le_refl _) _⟩
  case round =>
    obtain ⟨rfl, hown, hnx⟩ := hrel
    have hal : (acc z 0).length = 0 := rfl
    have HA := Lib.hid hal
    clear hal
    go_wp2_with (at_builtin; refine wpList_append_own _ rfl _ _ 22 rfl w.heap.size 5 i0 (.int .u8 0) 1 1 Ybad.underlying22 hi hz0 hz1 hz2 rfl (by decide) _ _ _ rfl (hown.alloc _) ⟨wr.heap.size, 0, none⟩ 1 1 [Value.int .u8 93] rfl rfl (by intro j u' hj; match j, hj with | 0, hj => simp at hj; subst hj; simp [Addr.add]) (by intro u' hu'; simp at hu'; subst hu'; rfl) (by have := HA.out; unfold maxLen; omega) (by have := HA.out; omega) (by have := hnx.size; simp; omega) ?_)
    intro v2 w2 hown2 hgrow _
    have hnx2 : Below w.heap.size w w2 := (hnx.alloc (by have := hnx.size; omega) _).grown hgrow (by have := hnx.size; simp; omega) (fun j hj => (hown.lt j hj).1)
    have hown2 := last_row z 0 hown2
    obtain ⟨l, hl⟩ : ∃ l, l = text z 0 := ⟨_, rfl⟩
    have hpos : 0 < l.length := by rw [hl]; simp [text]
    rw [← hl] at hown2
    have HL := Lib.hid hl
    clear hl
    obtain ⟨g, cp, hv⟩ := own_form hown2 hpos
    subst hv
    have hcv := run_convert_bytes_back (P := Ybad.prog) w2 22 9 5 ⟨g, 0, none⟩ cp l Ybad.underlying22 Ybad.underlying5 Ybad.underlying9 (fun j hj => hown2.cells (g := g) rfl j _ (by simp [Lib.byteCells, hj]))
    go_wp2
    go_ret
    have hl := HL.out
    subst hl
    exact ⟨rfl, hnx2⟩
end Go.Proofs.YbulkcuomDoor
