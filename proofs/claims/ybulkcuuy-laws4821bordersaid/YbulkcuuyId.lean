import Derived.Test.YbulkcuuyShelf
import Derived.Test.YbulkcuuyPlain
import Derived.WalkKit
import Derived.WalkSpells
import Derived.Lib.Hide
import Derived.Deep.RegionWith
import Derived.BigRegion
namespace Go.Proofs.Ybulkcuuy
open Go.RowKit

/-- The bytes as cells. -/
def Bytes (cs : Array Value) (z : Nat → Nat) : Prop := cs.size = 32 ∧ ∀ i, i < 32 → cs[i]? = some (.int .u8 (z i : Int))

theorem heap_setCell_at {w : World} {A i : Nat} {cs : Array Value} {t : TypeId} {fr : Nat × Nat} (h : w.heap[A]? = some (.cells cs t fr)) (v : Value) :
    (w.setCell ⟨A, i, none⟩ v).heap[A]? = some (.cells (cs.setIfInBounds i v) t fr) := by
  simp [World.setCell, Array.getElem?_modify, h]

/-- Behind some rounds: the bytes boxed, the result's cells, the words as f has them. -/
structure IdSt (w0 : World) (t : TypeId) (cs : Array Value) (f : Nat → Nat) (w : World) : Prop where
  below : Below w0.heap.size w0 w
  box : w.heap[w0.heap.size]? = some (.cells cs 22 (0, 0))
  res : w.heap[w0.heap.size + 1]? = some (.cells #[.int .u64 0, .int .u64 0, .int .u64 0, .int .u64 0] t (0, 0))
  id : ∃ a, w.heap[w0.heap.size + 1 + 1]? = some (.cells a t (0, 0)) ∧ a.size = 4 ∧ ∀ j, j < 4 → a[j]? = some (.int .u64 (f j : Int))

theorem IdSt.start (w : World) (t : TypeId) (cs : Array Value) : IdSt w t cs (fun _ => 0) (((w.alloc (.cells cs 22)).alloc (.cells #[.int .u64 0, .int .u64 0, .int .u64 0, .int .u64 0] t)).alloc (.cells #[.int .u64 0, .int .u64 0, .int .u64 0, .int .u64 0] t)) := by
  have h0 := heap_alloc_new w (.cells cs 22)
  have h1 := heap_alloc_new (w.alloc (.cells cs 22)) (.cells #[.int .u64 0, .int .u64 0, .int .u64 0, .int .u64 0] t)
  have h2 := heap_alloc_new ((w.alloc (.cells cs 22)).alloc (.cells #[.int .u64 0, .int .u64 0, .int .u64 0, .int .u64 0] t)) (.cells #[.int .u64 0, .int .u64 0, .int .u64 0, .int .u64 0] t)
  simp only [World.size_alloc] at h1 h2
  refine ⟨(((Below.refl _ _).alloc (Nat.le_refl _) _).alloc (by simp) _).alloc (by simp; omega) _, ?_, ?_, ⟨_, h2, rfl, fun j hj => ?_⟩⟩
  · rw [Below.heap_alloc _ _ _ (by simp; omega), Below.heap_alloc _ _ _ (by simp)]; exact h0
  · rw [Below.heap_alloc _ _ _ (by simp)]; exact h1
  · match j, hj with
    | 0, _ => rfl
    | 1, _ => rfl
    | 2, _ => rfl
    | 3, _ => rfl

theorem IdSt.size {w0 w : World} {t : TypeId} {cs : Array Value} {f : Nat → Nat} (h : IdSt w0 t cs f w) : w0.heap.size + 1 + 1 < w.heap.size := by
  obtain ⟨a, ha, _⟩ := h.id
  exact (Array.getElem?_eq_some_iff.1 ha).1

theorem IdSt.kept {w0 w w' : World} {t : TypeId} {cs : Array Value} {f : Nat → Nat} (h : IdSt w0 t cs f w) (hb : Below w.heap.size w w') : IdSt w0 t cs f w' := by
  have hs := h.size
  obtain ⟨a, ha, h1, h2⟩ := h.id
  exact ⟨h.below.trans (hb.mono h.below.size), (hb.block _ (by omega)).trans h.box, (hb.block _ (by omega)).trans h.res, ⟨a, (hb.block _ hs).trans ha, h1, h2⟩⟩

theorem IdSt.cell {w0 w : World} {t : TypeId} {cs : Array Value} {f : Nat → Nat} (h : IdSt w0 t cs f w) (j : Nat) (hj : j < 4) : w.cell? ⟨w0.heap.size + 1 + 1, j, none⟩ = some (.int .u64 (f j : Int)) := by
  obtain ⟨a, ha, h1, h2⟩ := h.id
  rw [cell_of_row w _ j a t (0, 0) ha]; exact h2 j hj
theorem IdSt.fz {w0 w : World} {t : TypeId} {cs : Array Value} {f : Nat → Nat} (h : IdSt w0 t cs f w) (j : Nat) : w.frozen? ⟨w0.heap.size + 1 + 1, j, none⟩ = false := by
  obtain ⟨a, ha, _⟩ := h.id
  simp [World.frozen?, ha]
theorem IdSt.byte {w0 w : World} {t : TypeId} {cs : Array Value} {f z : Nat → Nat} (h : IdSt w0 t cs f w) (hcs : Bytes cs z) (j : Nat) (hj : j < 32) : w.cell? ⟨w0.heap.size, j, none⟩ = some (.int .u8 (z j : Int)) := by
  rw [cell_of_row w _ j cs 22 (0, 0) h.box]; exact hcs.2 j hj

/-- A word stored. -/
theorem IdSt.store {w0 w : World} {t : TypeId} {cs : Array Value} {f g : Nat → Nat} (h : IdSt w0 t cs f w) (k : Nat) (hk : k < 4) (v : Nat) (hg : ∀ j, j < 4 → g j = if j = k then v else f j) :
    IdSt w0 t cs g (w.setCell ⟨w0.heap.size + 1 + 1, k, none⟩ (.int .u64 (v : Int))) := by
  obtain ⟨a, ha, h1, h2⟩ := h.id
  refine ⟨h.below.setCell (by show w0.heap.size ≤ w0.heap.size + 1 + 1; omega) _, ?_, ?_, ⟨_, heap_setCell_at ha _, by simpa using h1, fun j hj => ?_⟩⟩
  · rw [Below.heap_setCell _ _ _ _ (by show w0.heap.size ≠ w0.heap.size + 1 + 1; omega)]; exact h.box
  · rw [Below.heap_setCell _ _ _ _ (by show w0.heap.size + 1 ≠ w0.heap.size + 1 + 1; omega)]; exact h.res
  · rw [hg j hj]
    by_cases hjk : j = k
    · subst hjk; rw [if_pos rfl, Array.getElem?_setIfInBounds_self_of_lt (by omega)]
    · rw [if_neg hjk, Array.getElem?_setIfInBounds_ne (by omega)]; exact h2 j hj

theorem len22 : Yba.prog.arrayLen 22 = 32 := by simp [Program.arrayLen, Yba.underlying22]

theorem slice32 (k : Nat) (hk : k < 4) (g : Nat) (W : World) : (Instr.sliceAt 22 (.pointer (some ⟨g, 0, none⟩)) (some (.int .i64 (8 * (k : Int)))) none none).run Yba.prog W = .ok (.slice (some ⟨g, 8 * k, none⟩) (32 - 8 * k) (32 - 8 * k)) W := by
  rw [run_sliceAt_array_l W 22 ⟨g, 0, none⟩ (by simp [Program.arrayLen, Program.elem, Yba.underlying22]) .i64 (8 * (k : Int)) (by omega) (by rw [len22]; omega)]
  have h20 : ¬ 32 = 8 * k := by omega
  rw [len22]
  have e : (8 * (k : Int)).toNat = 8 * k := by omega
  rw [e]
  go_simp

theorem toU8 (n : Nat) (h : n < 256) : ((UInt8.ofNat n).toNat : Int) = (n : Int) := by simp; omega

/-- binary.BigEndian.Uint64 at the eight bytes from 8 k on. -/
theorem be_any {w0 w : World} {t : TypeId} {cs : Array Value} {f z : Nat → Nat} (hz : ∀ i, z i < 256) (h : IdSt w0 t cs f w) (hcs : Bytes cs z) (k : Nat) (hk : k < 4) :
    Calls Yba.prog 9 #[.agg #[], .slice (some ⟨w0.heap.size, 8 * k, none⟩) (32 - 8 * k) (32 - 8 * k)] w fun e w' => e = .returned (.int .u64 (word z k : Int)) ∧ Below w.heap.size w w' := by
  have hc : ∀ r, r < 8 → w.cell? ⟨w0.heap.size, 8 * k + r, none⟩ = some (.int .u8 ((UInt8.ofNat (z (8 * k + r))).toNat : Int)) := fun r hr => by
    rw [toU8 _ (hz _)]; exact h.byte hcs _ (by omega)
  refine (Yba.binary_BE_Uint64 w0.heap.size (8 * k) _ _ (UInt8.ofNat (z (8 * k))) (UInt8.ofNat (z (8 * k + 1))) (UInt8.ofNat (z (8 * k + 2))) (UInt8.ofNat (z (8 * k + 3))) (UInt8.ofNat (z (8 * k + 4))) (UInt8.ofNat (z (8 * k + 5))) (UInt8.ofNat (z (8 * k + 6))) (UInt8.ofNat (z (8 * k + 7))) w (by omega) (hc 0 (by omega)) (hc 1 (by omega)) (hc 2 (by omega)) (hc 3 (by omega)) (hc 4 (by omega)) (hc 5 (by omega)) (hc 6 (by omega)) (hc 7 (by omega))).mono ?_
  rintro e w' ⟨rfl, hb⟩
  have h0 := hz (8 * k); have h1 := hz (8 * k + 1); have h2 := hz (8 * k + 2); have h3 := hz (8 * k + 3)
  have h4 := hz (8 * k + 4); have h5 := hz (8 * k + 5); have h6 := hz (8 * k + 6); have h7 := hz (8 * k + 7)
  have e : Lib.beNat [UInt8.ofNat (z (8 * k)), UInt8.ofNat (z (8 * k + 1)), UInt8.ofNat (z (8 * k + 2)), UInt8.ofNat (z (8 * k + 3)), UInt8.ofNat (z (8 * k + 4)), UInt8.ofNat (z (8 * k + 5)), UInt8.ofNat (z (8 * k + 6)), UInt8.ofNat (z (8 * k + 7))] = word z k := by
    simp only [Lib.beNat, Lib.beFrom, word, part, UInt8.toNat_ofNat', Nat.reducePow, Nat.add_zero]
    omega
  rw [e]
  exact ⟨rfl, hb⟩

set_option maxHeartbeats 800000 in
theorem idOf_any (cs : Array Value) (z : Nat → Nat) (hz : ∀ i, z i < 256) (hcs : Bytes cs z) (w : World) :
    Calls Yba.prog 5 #[.agg cs] w fun e w' => e = .returned (.agg #[.int .u64 (word z 0), .int .u64 (word z 1), .int .u64 (word z 2), .int .u64 (word z 3)]) ∧ Below w.heap.size w w' := by
  go_enter Yba.func5, Yba.ntmps5
  go_wp2_with fail
  go_loopw [5] (fun i wr => ∃ k : Nat, k ≤ 4 ∧ i = .int .i64 k ∧ IdSt w 25 cs (fun j => if j < k then word z j else 0) wr) (fun i _ => 4 - (intOf i).toNat)
  case atStart => exact ⟨0, by omega, rfl, IdSt.start w 25 cs⟩
  case round =>
    obtain ⟨k, hk, rfl, hst⟩ := hrel
    by_cases hlt : k < 4
    · have hsl := slice32 k hlt w.heap.size
      have hwr : IntKind.i64.wrap (8 * (k : Int)) = 8 * (k : Int) := by simp only [IntKind.wrap_i64]; omega
      have HC := Lib.hid (be_any (w := wr.drew) hz (hst.kept (Below.refl _ _).drew) hcs k hlt)
      have HS := Lib.hid hst
      have hsz := hst.size
      clear hst
      go_wp2_with fail
      go_region_with (go_at_call 9; refine (HC.out).mono ?_; rintro e w2 ⟨rfl, hb2⟩; have hcl := (HS.out.kept (((Below.refl wr.heap.size wr).drew).trans hb2)).cell k hlt; have hfz := (HS.out.kept (((Below.refl wr.heap.size wr).drew).trans hb2)).fz k)
      have HN := Lib.hid ((HS.out.kept (((Below.refl wr.heap.size wr).drew).trans hb2)).store (g := fun j => if j < k + 1 then word z j else 0) k hlt (word z k) (fun j _ => by
        by_cases h1 : j = k
        · subst h1; simp
        · by_cases h2 : j < k
          · simp [h1, h2, show j < k + 1 by omega]
          · simp [h1, h2, show ¬ j < k + 1 by omega]))
      clear hb2
      go_wp2
      go_roundw
      case rel => exact ⟨k + 1, by omega, by go_num, HN.out⟩
      case measure => simp [intOf]; omega
    · have hk4 : k = 4 := by omega
      subst hk4
      have c0 := hst.cell 0 (by omega)
      have c1 := hst.cell 1 (by omega)
      have c2 := hst.cell 2 (by omega)
      have c3 := hst.cell 3 (by omega)
      simp only [show (0 : Nat) < 4 by omega, show (1 : Nat) < 4 by omega, show (2 : Nat) < 4 by omega, show (3 : Nat) < 4 by omega, if_true] at c0 c1 c2 c3
      have r0 : wr.cell? ⟨w.heap.size + 1, 0, none⟩ = some (.int .u64 0) := by rw [cell_of_row wr _ 0 _ 25 (0, 0) hst.res]; rfl
      have r1 : wr.cell? ⟨w.heap.size + 1, 1, none⟩ = some (.int .u64 0) := by rw [cell_of_row wr _ 1 _ 25 (0, 0) hst.res]; rfl
      have r2 : wr.cell? ⟨w.heap.size + 1, 2, none⟩ = some (.int .u64 0) := by rw [cell_of_row wr _ 2 _ 25 (0, 0) hst.res]; rfl
      have r3 : wr.cell? ⟨w.heap.size + 1, 3, none⟩ = some (.int .u64 0) := by rw [cell_of_row wr _ 3 _ 25 (0, 0) hst.res]; rfl
      have f0 : ∀ j, wr.frozen? ⟨w.heap.size + 1, j, none⟩ = false := fun j => by simp [World.frozen?, hst.res]
      obtain ⟨x0, hx0⟩ : ∃ x, x = word z 0 := ⟨_, rfl⟩
      obtain ⟨x1, hx1⟩ : ∃ x, x = word z 1 := ⟨_, rfl⟩
      obtain ⟨x2, hx2⟩ : ∃ x, x = word z 2 := ⟨_, rfl⟩
      obtain ⟨x3, hx3⟩ : ∃ x, x = word z 3 := ⟨_, rfl⟩
      rw [← hx0] at c0
      rw [← hx1] at c1
      rw [← hx2] at c2
      rw [← hx3] at c3
      have HX := Lib.hid (And.intro hx0 (And.intro hx1 (And.intro hx2 hx3)))
      have HB := Lib.hid hst.below
      clear hst hx0 hx1 hx2 hx3
      go_wp2
      refine bodyPost_ret (v := .agg #[.int .u64 x0, .int .u64 x1, .int .u64 x2, .int .u64 x3]) (by simp [results, Yba.results5, go_sem, r0, r1, r2, r3]) rfl ⟨?_, ?_⟩
      · obtain ⟨e0, e1, e2, e3⟩ := HX.out
        rw [e0, e1, e2, e3]
      · exact (((HB.out.setCell (Nat.le_succ _) _).setCell (Nat.le_succ _) _).setCell (Nat.le_succ _) _).setCell (Nat.le_succ _) _
end Go.Proofs.Ybulkcuuy
