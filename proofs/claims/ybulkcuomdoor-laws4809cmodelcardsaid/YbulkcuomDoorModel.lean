import Derived.Test.YbulkcuomDoorDec
namespace Go.Proofs.YbulkcuomDoor
open Go.Shelf Go.RowKit

open Txt in
set_option maxHeartbeats 1000000 in
set_option maxRecDepth 100000 in
theorem model_core (b off n cap : Nat) (z : Nat → Nat) (hn0 : 0 < n) (hn : n ≤ 1024) (hz : ∀ i, z i < 18446744073709551616) (w : World)
    (hc : ∀ i, i < n → w.cell? ⟨b, off + i, none⟩ = some (.int .u64 (z i))) (hb : b < w.heap.size) (s : ByteArray) (hs : Hid (s = ⟨(text z n).toArray⟩))
    (HS : Hid (Calls Ybad.prog 10 #[.slice (some ⟨b, off, none⟩) n cap] w fun e w' => e = .returned (.string s) ∧ Below w.heap.size w w')) :
    Calls Ybad.prog 5 #[.slice (some ⟨b, off, none⟩) n cap] w fun e w' => e = .returned (.bool true) ∧ Below w.heap.size w w' := by
  obtain ⟨i0, hi, hz0, hz1, hz2⟩ := info_parts infoByte
  go_enter Ybad.func5, Ybad.ntmps5
  go_wp2_with (go_at_call 10; refine (HS.out).mono ?_; rintro e w1 ⟨rfl, hnx1⟩)
  have hsz1 := hnx1.size
  go_loopw [4, 5] (fun v i wr => ∃ k : Nat, k ≤ n ∧ i = .int .i64 k ∧ wr.ownsRow w.heap.size 5 1 v (1 + (acc z k).length) (Lib.byteCells (91 :: acc z k)) ∧ Below w.heap.size w wr) (fun _ i _ => n - (intOf i).toNat)
  case atStart => exact ⟨0, Nat.zero_le _, rfl, World.ownsRow_lit w1 #[.int .u8 91] 1 hsz1 (by decide) rfl, hnx1.alloc hsz1 _⟩
  case round =>
    obtain ⟨k, hk, rfl, hown, hnx⟩ := hrel
    have hal := acc_len_le z hz k
    clear HS hnx1 hsz1
    by_cases hlt : k < n
    · have hcx : wr.cell? ⟨b, off + k, none⟩ = some (.int .u64 (z k)) := (hnx.cell (by exact hb)).trans (hc k hlt)
      have hzk := hz k
      clear hc
      by_cases h0 : 0 < k
      · go_wp2_with (at_builtin; refine wpList_append_own _ rfl _ _ 22 rfl w.heap.size 5 i0 (.int .u8 0) 1 1 Ybad.underlying22 hi hz0 hz1 hz2 rfl (by decide) _ _ _ rfl (hown.alloc _) ⟨wr.heap.size, 0, none⟩ 1 1 [Value.int .u8 44] rfl rfl (by intro j u' hj; match j, hj with | 0, hj => simp at hj; subst hj; simp [Addr.add]) (by intro u' hu'; simp at hu'; subst hu'; rfl) (by unfold maxLen; omega) (by omega) (by have := hnx.size; simp; omega) ?_)
        intro v2 w2 hown2 hgrow _
        have hnx2 : Below w.heap.size w w2 := (hnx.alloc (by have := hnx.size; omega) _).grown hgrow (by have := hnx.size; simp; omega) (fun j hj => (hown.lt j hj).1)
        have hcx2 : w2.cell? ⟨b, off + k, none⟩ = some (.int .u64 (z k)) := by rw [hnx2.cell (by exact hb), ← hnx.cell (by exact hb)]; exact hcx
        go_wp2_with (go_at_call 11; refine (dec_any w.heap.size _ (z k) hzk v2 _ w2 hown2 (by have := hnx2.size; omega) (by omega)).mono ?_; rintro e w3 ⟨v3, rfl, hown3, hnx3⟩)
        go_roundw
        case rel => exact ⟨k + 1, by omega, by go_num, next_comma z k h0 hown3, hnx2.trans hnx3⟩
        case measure => simp [intOf]; omega
      · go_wp2_with (go_at_call 11; refine (dec_any w.heap.size _ (z k) hzk _ _ _ hown (by have := hnx.size; omega) (by omega)).mono ?_; rintro e w3 ⟨v3, rfl, hown3, hnx3⟩)
        go_roundw
        case rel => exact ⟨k + 1, by omega, by go_num, next_first z k h0 hown3, hnx.trans hnx3⟩
        case measure => simp [intOf]; omega
    · have hkn : k = n := by omega
      subst hkn
      go_wp2_with (at_builtin; refine wpList_append_own _ rfl _ _ 22 rfl w.heap.size 5 i0 (.int .u8 0) 1 1 Ybad.underlying22 hi hz0 hz1 hz2 rfl (by decide) _ _ _ rfl (hown.alloc _) ⟨wr.heap.size, 0, none⟩ 1 1 [Value.int .u8 93] rfl rfl (by intro j u' hj; match j, hj with | 0, hj => simp at hj; subst hj; simp [Addr.add]) (by intro u' hu'; simp at hu'; subst hu'; rfl) (by unfold maxLen; omega) (by omega) (by have := hnx.size; simp; omega) ?_)
      intro v2 w2 hown2 hgrow _
      have hnx2 : Below w.heap.size w w2 := (hnx.alloc (by have := hnx.size; omega) _).grown hgrow (by have := hnx.size; simp; omega) (fun j hj => (hown.lt j hj).1)
      have hown2 := last_row z k hown2
      obtain ⟨l, hl⟩ : ∃ l, l = text z k := ⟨_, rfl⟩
      have hpos : 0 < l.length := by rw [hl]; simp [text]
      rw [← hl] at hown2
      have hsl : s = ⟨l.toArray⟩ := by rw [hl]; exact hs.out
      clear hl
      obtain ⟨g, cp, hv⟩ := own_form hown2 hpos
      subst hv
      have hcv := run_convert_bytes_back (P := Ybad.prog) w2 22 9 5 ⟨g, 0, none⟩ cp l Ybad.underlying22 Ybad.underlying5 Ybad.underlying9 (fun j hj => hown2.cells (g := g) rfl j _ (by simp [Lib.byteCells, hj]))
      rw [← hsl] at hcv
      clear hsl
      go_wp2
      go_ret
      exact ⟨rfl, hnx2⟩

open Txt in
theorem model_pos (b off n cap : Nat) (z : Nat → Nat) (hn0 : 0 < n) (hn : n ≤ 1024) (hz : ∀ i, z i < 18446744073709551616) (w : World)
    (hc : ∀ i, i < n → w.cell? ⟨b, off + i, none⟩ = some (.int .u64 (z i))) (hb : b < w.heap.size)
    (htab : Lib.TabIs Ybad.prog w tabName .u64 Lib.pow10Tab) :
    Calls Ybad.prog 5 #[.slice (some ⟨b, off, none⟩) n cap] w fun e w' => e = .returned (.bool true) ∧ Below w.heap.size w w' :=
  model_core b off n cap z hn0 hn hz w hc hb _ (Lib.hid rfl) (string_pos b off n cap z hn0 hn hz w hc hb htab)

open Txt in
set_option maxHeartbeats 1000000 in
set_option maxRecDepth 100000 in
/-- The law at no entry. -/
theorem model_zero (a : Option Addr) (cap : Nat) (w : World) :
    Calls Ybad.prog 5 #[.slice a 0 cap] w fun e w' => e = .returned (.bool true) ∧ Below w.heap.size w w' := by
  obtain ⟨i0, hi, hz0, hz1, hz2⟩ := info_parts infoByte
  have HS := string_zero a cap (fun _ => 0) w
  obtain ⟨s, hs⟩ : ∃ s : ByteArray, s = ⟨(text (fun _ => 0) 0).toArray⟩ := ⟨_, rfl⟩
  rw [← hs] at HS
  have HS := Lib.hid HS
  have hs' := Lib.hid hs
  clear hs
  go_enter Ybad.func5, Ybad.ntmps5
  go_wp2_with (go_at_call 10; refine (HS.out).mono ?_; rintro e w1 ⟨rfl, hnx1⟩)
  have hsz1 := hnx1.size
  go_loopw [4, 5] (fun v i wr => i = .int .i64 0 ∧ wr.ownsRow w.heap.size 5 1 v (1 + (acc (fun _ => 0) 0).length) (Lib.byteCells (91 :: acc (fun _ => 0) 0)) ∧ Below w.heap.size w wr) (fun _ i _ => 0)
  case atStart => exact ⟨rfl, World.ownsRow_lit w1 #[.int .u8 91] 1 hsz1 (by decide) rfl, hnx1.alloc hsz1 _⟩
  case round =>
    obtain ⟨rfl, hown, hnx⟩ := hrel
    have HA := Lib.hid (show (acc (fun _ => 0) 0).length = 0 from rfl)
    clear HS hnx1 hsz1
    go_wp2_with (at_builtin; refine wpList_append_own _ rfl _ _ 22 rfl w.heap.size 5 i0 (.int .u8 0) 1 1 Ybad.underlying22 hi hz0 hz1 hz2 rfl (by decide) _ _ _ rfl (hown.alloc _) ⟨wr.heap.size, 0, none⟩ 1 1 [Value.int .u8 93] rfl rfl (by intro j u' hj; match j, hj with | 0, hj => simp at hj; subst hj; simp [Addr.add]) (by intro u' hu'; simp at hu'; subst hu'; rfl) (by have := HA.out; unfold maxLen; omega) (by have := HA.out; omega) (by have := hnx.size; simp; omega) ?_)
    intro v2 w2 hown2 hgrow _
    have hnx2 : Below w.heap.size w w2 := (hnx.alloc (by have := hnx.size; omega) _).grown hgrow (by have := hnx.size; simp; omega) (fun j hj => (hown.lt j hj).1)
    have hown2 := last_row (fun _ => 0) 0 hown2
    obtain ⟨l, hl⟩ : ∃ l, l = text (fun _ => 0) 0 := ⟨_, rfl⟩
    have hpos : 0 < l.length := by rw [hl]; simp [text]
    rw [← hl] at hown2
    have hsl : s = ⟨l.toArray⟩ := by rw [hl]; exact hs'.out
    clear hl
    obtain ⟨g, cp, hv⟩ := own_form hown2 hpos
    subst hv
    have hcv := run_convert_bytes_back (P := Ybad.prog) w2 22 9 5 ⟨g, 0, none⟩ cp l Ybad.underlying22 Ybad.underlying5 Ybad.underlying9 (fun j hj => hown2.cells (g := g) rfl j _ (by simp [Lib.byteCells, hj]))
    rw [← hsl] at hcv
    clear hsl
    go_wp2
    go_ret
    exact ⟨rfl, hnx2⟩

set_option maxHeartbeats 400000 in
/-- The law at more than 1,024 entries. -/
theorem model_big (a : Option Addr) (n cap : Nat) (hn : 1024 < n) (hn2 : n ≤ 9223372036854775807) (w : World) :
    Calls Ybad.prog 5 #[.slice a n cap] w fun e w' => e = .returned (.bool true) ∧ Below w.heap.size w w' := by
  go_enter Ybad.func5, Ybad.ntmps5
  go_wp2_with fail
  go_ret
  exact ⟨rfl, Below.refl _ _⟩
end Go.Proofs.YbulkcuomDoor
