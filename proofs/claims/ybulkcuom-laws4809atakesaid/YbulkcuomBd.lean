import Derived.Test.YbulkcuomTk
import Derived.Deep.OwnRows
import Derived.RegionTactic
import Derived.BigRegion
import Derived.ChangeAlike
import Derived.Deep.QuietTactic
import Derived.BigQuiet
namespace Go.Proofs.Ybulkcuom
open Go.RowKit Go.MuLone
open Go.ChangeMaps (setBlock)

theorem info28z : (Yba.prog.info? 28).map (fun i => (i.zero, i.size, i.bytes)) = some (some (.pointer none), 1, 8) := by kernel_rfl

theorem make_conns (n : Nat) (hn : n ≤ 1024) (w : World) : (Instr.makeSlice 24 (.int .i64 ((n : Int) + 1)) (.int .i64 ((n : Int) + 1))).run Yba.prog w = .ok (.slice (some ⟨w.heap.size, 0, none⟩) (n + 1) (n + 1)) (w.alloc (.cells (madeCells #[.pointer none] (n + 1)) 28)) := by
  have h := run_make_row' (P := Yba.prog) 24 28 (.pointer none) 8 Yba.underlying24 info28z rfl .i64 .i64 (n + 1) (by omega) (by omega) w
  rw [show ((n + 1 : Nat) : Int) = (n : Int) + 1 by omega] at h
  exact h

theorem make_map (n : Nat) (w : World) : (Instr.makeMap 39 (some (.int .i64 (n : Int)))).run Yba.prog w = .ok (.map (some w.heap.size)) (w.alloc (.map #[] 0)) := by
  simp [Instr.makeMap, run_underlying Yba.underlying39, asInt, asIntOf]

/-- The first k connections are made: the slice at block B, a block each behind it. -/
structure Made (w0 : World) (B n k : Nat) (w : World) : Prop where
  below : Below B w0 w
  size : w.heap.size = B + 1 + k
  row : ∃ cs, w.heap[B]? = some (.cells cs 28 (0, 0)) ∧ cs.size = n + 1 ∧ ∀ i, i < k → cs[i]? = some (.pointer (some ⟨B + 1 + i, 0, none⟩))
  conns : Conns w (B + 1) k

theorem Made.start (w : World) (n : Nat) : Made w w.heap.size n 0 (w.alloc (.cells (madeCells #[.pointer none] (n + 1)) 28)) :=
  ⟨(Below.refl _ _).alloc (Nat.le_refl _) _, by simp, ⟨_, heap_alloc_new w _, size_madeCells _ _, fun i hi => by omega⟩, fun i hi => by omega⟩

theorem Made.cell {w0 w : World} {B n k : Nat} (h : Made w0 B n k w) (i : Nat) (hi : i ≤ n) : ∃ v, w.cell? ⟨B, i, none⟩ = some v := by
  obtain ⟨cs, h1, h2, _⟩ := h.row
  exact ⟨cs[i]'(by omega), by rw [cell_of_row w B i cs 28 (0, 0) h1]; exact Array.getElem?_eq_getElem (by omega)⟩
theorem Made.fz {w0 w : World} {B n k : Nat} (h : Made w0 B n k w) (i : Nat) : w.frozen? ⟨B, i, none⟩ = false := by
  obtain ⟨cs, h1, _, _⟩ := h.row
  simp [World.frozen?, h1]
theorem Made.ptr {w0 w : World} {B n k : Nat} (h : Made w0 B n k w) (i : Nat) (hi : i < k) : w.cell? ⟨B, i, none⟩ = some (.pointer (some ⟨B + 1 + i, 0, none⟩)) := by
  obtain ⟨cs, h1, h2, h3⟩ := h.row
  rw [cell_of_row w B i cs 28 (0, 0) h1]; exact h3 i hi

theorem Made.next {w0 w : World} {B n k : Nat} (h : Made w0 B n k w) (hk : k ≤ n) (x : Value) :
    Made w0 B n (k + 1) ((w.setCell ⟨B, k, none⟩ (.pointer (some ⟨w.heap.size, 0, none⟩))).alloc (.cells #[x] 55)) := by
  obtain ⟨cs, h1, h2, h3⟩ := h.row
  have hs := h.size
  rw [hs]
  have hat := heap_setCell_at (i := k) h1 (.pointer (some ⟨B + 1 + k, 0, none⟩))
  have hoth : ∀ j : Nat, j ≠ B → (w.setCell ⟨B, k, none⟩ (.pointer (some ⟨B + 1 + k, 0, none⟩))).heap[j]? = w.heap[j]? := fun j hj => Below.heap_setCell _ _ _ _ hj
  have hbel := h.below.setCell (p := ⟨B, k, none⟩) (Nat.le_refl _) (.pointer (some ⟨B + 1 + k, 0, none⟩))
  have hss : (w.setCell ⟨B, k, none⟩ (.pointer (some ⟨B + 1 + k, 0, none⟩))).heap.size = B + 1 + k := by rw [← hs]; simp [World.setCell]
  generalize w.setCell ⟨B, k, none⟩ (.pointer (some ⟨B + 1 + k, 0, none⟩)) = w1 at *
  have hold : ∀ j : Nat, j < B + 1 + k → (w1.alloc (.cells #[x] 55)).heap[j]? = w1.heap[j]? := fun j hj => Below.heap_alloc _ _ _ (by omega)
  have hnew : (w1.alloc (.cells #[x] 55)).heap[B + 1 + k]? = some (.cells #[x] 55) := by rw [← hss]; exact heap_alloc_new _ _
  refine ⟨hbel.alloc (by omega) _, by simp [hss]; omega, ⟨cs.setIfInBounds k (.pointer (some ⟨B + 1 + k, 0, none⟩)), ?_, by simpa using h2, ?_⟩, ?_⟩
  · rw [hold B (by omega)]; exact hat
  · intro i hi
    by_cases hik : i = k
    · subst hik; rw [Array.getElem?_setIfInBounds_self_of_lt (by omega)]
    · rw [Array.getElem?_setIfInBounds_ne (by omega)]; exact h3 i (by omega)
  · intro i hi
    by_cases hik : i = k
    · subst hik; exact ⟨_, _, hnew⟩
    · obtain ⟨ca, ta, hca⟩ := h.conns i (by omega)
      refine ⟨ca, ta, ?_⟩
      rw [hold _ (by omega), hoth _ (by omega)]; exact hca

/-- The acceptor is built; the first k connections stand in its map. -/
structure Built (w0 : World) (B n : Nat) (f : Nat → Bool) (k : Nat) (w : World) : Prop where
  below : Below B w0 w
  size : w.heap.size = B + n + 4
  ptr : ∀ i, i ≤ n → w.cell? ⟨B, i, none⟩ = some (.pointer (some ⟨B + 1 + i, 0, none⟩))
  conns : Conns w (B + 1) (n + 1)
  free : Free w (B + n + 2) (.map (some (B + n + 2 + 1)))
  map : w.heap[B + n + 2 + 1]? = some (.map (ents (B + 1) f k) k)

theorem Built.start {w0 w : World} {B n : Nat} (f : Nat → Bool) (h : Made w0 B n (n + 1) w) (cs : Array Value) (h6 : cs[6]? = some (.int .i32 0)) (h8 : cs[8]? = some (.map (some (B + n + 2 + 1)))) :
    Built w0 B n f 0 ((w.alloc (.cells cs 48)).alloc (.map #[] 0)) := by
  have hs := h.size
  have s1 : (w.alloc (.cells cs 48)).heap.size = B + n + 2 + 1 := by simp [hs]; omega
  have hold : ∀ j : Nat, j < w.heap.size → ((w.alloc (.cells cs 48)).alloc (.map #[] 0)).heap[j]? = w.heap[j]? := fun j hj => by
    rw [Below.heap_alloc _ _ _ (by omega), Below.heap_alloc _ _ _ hj]
  have hA : ((w.alloc (.cells cs 48)).alloc (.map #[] 0)).heap[B + n + 2]? = some (.cells cs 48) := by
    rw [Below.heap_alloc _ _ _ (by omega), show B + n + 2 = w.heap.size by omega]; exact heap_alloc_new _ _
  have hM : ((w.alloc (.cells cs 48)).alloc (.map #[] 0)).heap[B + n + 2 + 1]? = some (.map #[] 0) := by
    rw [← s1]; exact heap_alloc_new _ _
  refine ⟨(h.below.alloc (by omega) _).alloc (by omega) _, by simp [hs]; omega, fun i hi => ?_, fun i hi => ?_, ⟨cs, 48, hA, h6, h8⟩, hM⟩
  · rw [World.cell?_of_block (w := w) (hold B (by omega))]; exact h.ptr i (by omega)
  · obtain ⟨ca, ta, hc⟩ := h.conns i hi
    exact ⟨ca, ta, by rw [hold _ (by omega)]; exact hc⟩

theorem Built.next {w0 w w1 : World} {B n k : Nat} {f : Nat → Bool} (h : Built w0 B n f k w) (hos : w1.os = w.os) (htape : w1.tape = w.tape) (hout : w1.output = w.output) (hh : w1.heap = w.heap) :
    Built w0 B n f (k + 1) (setBlock w1 (B + n + 2 + 1) (.map (ents (B + 1) f (k + 1)) (k + 1))) := by
  have hs := h.size
  have hoth : ∀ j : Nat, j ≠ B + n + 2 + 1 → (setBlock w1 (B + n + 2 + 1) (.map (ents (B + 1) f (k + 1)) (k + 1))).heap[j]? = w.heap[j]? := fun j hj => by
    rw [heap_setBlock_other _ _ _ _ hj, hh]
  refine ⟨⟨hos.trans h.below.os, htape.trans h.below.tape, hout.trans h.below.output, ?_, fun j hj => ?_⟩, by simp [setBlock, hh, hs], fun i hi => ?_, fun i hi => ?_, ?_, heap_setBlock_at _ _ _ (by rw [hh]; omega)⟩
  · have := h.below.size; simpa [setBlock, hh] using this
  · rw [hoth j (by omega)]; exact h.below.block j hj
  · rw [World.cell?_of_block (w := w) (hoth B (by omega))]; exact h.ptr i hi
  · obtain ⟨ca, ta, hc⟩ := h.conns i hi
    exact ⟨ca, ta, by rw [hoth _ (by omega)]; exact hc⟩
  · obtain ⟨cs, t, h1, h2, h3⟩ := h.free
    exact ⟨cs, t, by rw [hoth _ (by omega)]; exact h1, h2, h3⟩

set_option maxHeartbeats 1600000 in
theorem build_any (a : Option Addr) (n cap : Nat) (f : Nat → Bool) (hn : n ≤ 1024) (w : World)
    (hfl : ∀ i, i < n → ∃ fb foff, a = some ⟨fb, foff, none⟩ ∧ w.cell? ⟨fb, foff + i, none⟩ = some (.bool (f i)) ∧ fb < w.heap.size) :
    Calls Yba.prog 5 #[.slice a n cap, .bool false] w fun e w' => e = .returned (.tuple #[.pointer (some ⟨w.heap.size + n + 2, 0, none⟩), .slice (some ⟨w.heap.size, 0, none⟩) (n + 1) (n + 1)]) ∧ Built w w.heap.size n f n w' := by
  have hmk := make_conns n hn
  have hmm := make_map n
  go_enter Yba.func5, Yba.ntmps5
  go_wp2_with fail
  go_loopw [8] (fun i wr => ∃ k : Nat, k ≤ n + 1 ∧ i = .int .i64 k ∧ Made w w.heap.size n k wr) (fun i _ => n + 1 - (intOf i).toNat)
  case atStart => exact ⟨0, Nat.zero_le _, rfl, Made.start w n⟩
  case round =>
    obtain ⟨k, hk, rfl, hmd⟩ := hrel
    by_cases hlt : k ≤ n
    · obtain ⟨v, hv⟩ := hmd.cell k hlt
      have hfz := hmd.fz k
      have hsz : w.heap.size < wr.heap.size := by have := hmd.size; omega
      go_wp2
      go_roundw
      case rel => exact ⟨k + 1, by omega, by go_num, hmd.next hlt _⟩
      case measure => simp [intOf]; omega
    · have hkn : k = n + 1 := by omega
      subst hkn
      have hsz : wr.heap.size = w.heap.size + n + 2 := by rw [hmd.size]; omega
      have hdec : decide ((n : Int) + 1 ≤ (n : Int)) = false := by rw [decide_eq_false_iff_not]; omega
      go_wp2_with fail
      go_loopw [10] (fun i wr => ∃ k : Nat, k ≤ n ∧ i = .int .i64 k ∧ Built w w.heap.size n f k wr) (fun i _ => n - (intOf i).toNat)
      case atStart => exact ⟨0, Nat.zero_le _, rfl, Built.start f hmd _ rfl rfl⟩
      case round =>
        clear hmd hsz hmk hmm
        obtain ⟨k, hk, rfl, hbd⟩ := hrel
        by_cases hlt : k < n
        · obtain ⟨fb, foff, rfl, hfc, hfb⟩ := hfl k hlt
          have hmap := hbd.free.inn
          have hptr := hbd.ptr k (by omega)
          have hflag : wr.cell? ⟨fb, foff + k, none⟩ = some (.bool (f k)) := (hbd.below.cell (by exact hfb)).trans hfc
          have hup : ∀ q, (Instr.mapUpdate 39 (.map (some (w.heap.size + n + 2 + 1))) (.iface 28 (.pointer (some ⟨w.heap.size + 1 + k, 0, none⟩))) (.bool (f k))).run Yba.prog (wr.drewN q) = .ok () (setBlock (wr.drewN q) (w.heap.size + n + 2 + 1) (.map (ents (w.heap.size + 1) f (k + 1)) (k + 1))) := fun q => update_new (w.heap.size + 1) (n + 1) k (w.heap.size + n + 2 + 1) (f k) f (wr.drewN q) hbd.conns (by omega) hbd.map rfl
          have hup1 := hup 1
          rw [show wr.drewN 1 = wr.drew from rfl] at hup1
          have hnx := hbd.next (w1 := wr.drew) rfl rfl rfl rfl
          have HN := Hid.out (p := Hid _) hnx
          clear hup hnx hfl hfc hbd
          go_wp2_with fail
          go_region
          go_wp2
          go_roundw
          case rel => exact ⟨k + 1, by omega, by go_num, HN⟩
          case measure => simp [intOf]; omega
        · have hkn : k = n := by omega
          subst hkn
          have HB := Hid.out (p := Hid _) hbd
          clear hbd hfl
          go_wp2
          go_ret2
          exact ⟨rfl, HB⟩
end Go.Proofs.Ybulkcuom
