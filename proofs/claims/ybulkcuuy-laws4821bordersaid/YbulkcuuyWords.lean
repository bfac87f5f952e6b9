import Derived.Test.YbulkcuuyModel
import Derived.Deep.QuietTactic
import Derived.BigQuiet
namespace Go.Proofs.Ybulkcuuy
open Go.RowKit

theorem size22 {cs : Array Value} {z : Nat → Nat} (h : Bytes cs z) : (Yba.prog.info? 22).map (·.size) = some cs.size := by
  rw [h.1]; kernel_rfl

set_option maxHeartbeats 800000 in
theorem words (cs : Array Value) (z : Nat → Nat) (hz : ∀ i, z i < 256) (hcs : Bytes cs z) (w : World) :
    Calls Yba.prog 3 #[.agg cs] w fun e w' => e = .returned (.bool true) ∧ Below w.heap.size w w' := by
  have hsz := size22 hcs
  have hbox := heap_alloc_new w (.cells cs 22)
  have H5 := Lib.hid (idOf_any cs z hz hcs (w.alloc (.cells cs 22)))
  have HBX := Lib.hid hbox
  have HSZ := Lib.hid hsz
  clear hbox hsz
  go_enter Yba.func3, Yba.ntmps3
  go_wp2_with (first
    | (go_at_call 5; refine (H5.out).mono ?_; rintro e w1 ⟨rfl, hb1⟩; refine Hid.out ?_)
    | (refine wpList_load_row rfl 22 _ rfl w.heap.size rfl 22 cs (0, 0) _ HBX.out Yba.underlying22 rfl HSZ.out ?_))
  refine Lib.hid ?_
  have hs1 : w.heap.size < w1.heap.size := by have := hb1.size; simp at this; omega
  have hbox1 : w1.heap[w.heap.size]? = some (.cells cs 22) := (hb1.block _ (by simp)).trans HBX.out
  have hB1 : Below w.heap.size w w1 := ((Below.refl _ _).alloc (Nat.le_refl _) _).trans (hb1.mono (by simp))
  obtain ⟨x0, hx0⟩ : ∃ x, x = word z 0 := ⟨_, rfl⟩
  obtain ⟨x1, hx1⟩ : ∃ x, x = word z 1 := ⟨_, rfl⟩
  obtain ⟨x2, hx2⟩ : ∃ x, x = word z 2 := ⟨_, rfl⟩
  obtain ⟨x3, hx3⟩ : ∃ x, x = word z 3 := ⟨_, rfl⟩
  have H6 := fun W => model_any cs z hz hcs W
  rw [← hx0, ← hx1, ← hx2, ← hx3] at H6
  rw [← hx0, ← hx1, ← hx2, ← hx3]
  have H6' := Lib.hid H6
  clear H6
  have HB1 := Lib.hid hB1
  have HBX1 := Lib.hid hbox1
  clear hb1 hbox1 hB1 hx0 hx1 hx2 hx3
  have hbox2 : (w1.alloc (.cells #[.int .u64 (x0 : Int), .int .u64 (x1 : Int), .int .u64 (x2 : Int), .int .u64 (x3 : Int)] 25)).heap[w.heap.size]? = some (.cells cs 22) := by rw [Below.heap_alloc _ _ _ hs1]; exact HBX1.out
  have HBX2 := Lib.hid hbox2
  clear hbox2 HBX H5 HBX1
  go_wp2_with (first
    | (go_at_call 6; refine (H6'.out _).mono ?_; rintro e w2 ⟨rfl, hb2⟩; refine Hid.out ?_)
    | (refine wpList_load_row rfl 22 _ rfl w.heap.size rfl 22 cs (0, 0) _ HBX2.out Yba.underlying22 rfl HSZ.out ?_))
  refine Lib.hid ?_
  have hs2 : w1.heap.size < w2.heap.size := by have := hb2.size; simp at this; omega
  have hB2 : Below w.heap.size w w2 := (HB1.out.alloc (Nat.le_of_lt hs1) _).trans (hb2.mono (by simp; omega))
  have c25 : ∀ j v, (#[Value.int .u64 (x0 : Int), .int .u64 (x1 : Int), .int .u64 (x2 : Int), .int .u64 (x3 : Int)] : Array Value)[j]? = some v → w2.cell? ⟨w1.heap.size, j, none⟩ = some v := fun j v hv => by
    rw [hb2.cell (p := ⟨w1.heap.size, j, none⟩) (by simp), cell_of_row _ w1.heap.size j _ 25 (0, 0) (heap_alloc_new w1 _)]; exact hv
  have d0 := c25 0 _ rfl
  have d1 := c25 1 _ rfl
  have d2 := c25 2 _ rfl
  have d3 := c25 3 _ rfl
  have hcells : ∀ j, j < 4 → ∃ x : Nat, (w2.alloc (.cells #[.int .u64 (x0 : Int), .int .u64 (x1 : Int), .int .u64 (x2 : Int), .int .u64 (x3 : Int)] 24)).cell? ⟨w1.heap.size, j, none⟩ = some (.int .u64 (x : Int)) ∧ (w2.alloc (.cells #[.int .u64 (x0 : Int), .int .u64 (x1 : Int), .int .u64 (x2 : Int), .int .u64 (x3 : Int)] 24)).cell? ⟨w2.heap.size, j, none⟩ = some (.int .u64 (x : Int)) := fun j hj => by
    have e1 : (w2.alloc (.cells #[.int .u64 (x0 : Int), .int .u64 (x1 : Int), .int .u64 (x2 : Int), .int .u64 (x3 : Int)] 24)).cell? ⟨w1.heap.size, j, none⟩ = w2.cell? ⟨w1.heap.size, j, none⟩ := World.cell?_of_block (w := w2) (Below.heap_alloc _ _ _ hs2)
    have e2 := cell_of_row _ w2.heap.size j _ 24 (0, 0) (heap_alloc_new w2 (.cells #[.int .u64 (x0 : Int), .int .u64 (x1 : Int), .int .u64 (x2 : Int), .int .u64 (x3 : Int)] 24))
    rw [e1, e2]
    match j, hj with
    | 0, _ => exact ⟨x0, d0, rfl⟩
    | 1, _ => exact ⟨x1, d1, rfl⟩
    | 2, _ => exact ⟨x2, d2, rfl⟩
    | 3, _ => exact ⟨x3, d3, rfl⟩
  have hB3 : Below w.heap.size w (w2.alloc (.cells #[.int .u64 (x0 : Int), .int .u64 (x1 : Int), .int .u64 (x2 : Int), .int .u64 (x3 : Int)] 24)) := hB2.alloc hB2.size _
  have HC := Lib.hid hcells
  have HB3 := Lib.hid hB3
  clear hb2 hB2 c25 HBX2 HB1 H6' d0 d1 d2 d3 hcells hB3
  go_wp2_with fail
  generalize w2.alloc (.cells #[.int .u64 (x0 : Int), .int .u64 (x1 : Int), .int .u64 (x2 : Int), .int .u64 (x3 : Int)] 24) = W at *
  go_loopw [5] (fun i wr => ∃ (j q : Nat), j ≤ 4 ∧ i = .int .i64 j ∧ wr = W.drewN q) (fun i _ => 4 - (intOf i).toNat)
  case atStart => exact ⟨0, 0, by omega, rfl, rfl⟩
  case round =>
    obtain ⟨j, q, hj, rfl, rfl⟩ := hrel
    by_cases hlt : j < 4
    · obtain ⟨x, hx1, hx2⟩ := HC.out j hlt
      have hne : ((x : Int) != (x : Int)) = false := by simp
      go_wp2_with fail
      go_quiet (fail)
      go_wp2
      go_roundw
      case rel => exact ⟨j + 1, _, by omega, by go_num, rfl⟩
      case measure => simp [intOf]; omega
    · go_wp2
      go_ret
      exact ⟨rfl, HB3.out.trans ⟨rfl, rfl, rfl, Nat.le_refl _, fun _ _ => rfl⟩⟩
end Go.Proofs.Ybulkcuuy
