import Derived.Test.YbulkcuuyCmp
import Derived.Test.YbulkcuuyArg
import Derived.Deep.RegionHeld
namespace Go.Proofs.Ybulkcuuy
open Go.RowKit

/-- An id's words as cells. -/
def ids (z : Nat → Nat) : Array Value := #[.int .u64 (word z 0), .int .u64 (word z 1), .int .u64 (word z 2), .int .u64 (word z 3)]

theorem ids_at (z : Nat → Nat) (i : Nat) (hi : i < 4) : (ids z)[i]? = some (.int .u64 (word z i : Int)) := by
  match i, hi with
  | 0, _ => rfl
  | 1, _ => rfl
  | 2, _ => rfl
  | 3, _ => rfl

/-- Both arguments lie in their boxes. -/
structure Boxes (w : World) (ca cb : Array Value) (W : World) : Prop where
  below : Below w.heap.size w W
  a : W.heap[w.heap.size]? = some (.cells ca 22 (0, 0))
  b : W.heap[w.heap.size + 1]? = some (.cells cb 22 (0, 0))

theorem Boxes.kept {w W W' : World} {ca cb : Array Value} (h : Boxes w ca cb W) (hb : Below W.heap.size W W') : Boxes w ca cb W' := by
  have h1 := (Array.getElem?_eq_some_iff.1 h.a).1
  have h2 := (Array.getElem?_eq_some_iff.1 h.b).1
  exact ⟨h.below.trans (hb.mono h.below.size), (hb.block _ h1).trans h.a, (hb.block _ h2).trans h.b⟩

theorem Boxes.start (w : World) (ca cb : Array Value) : Boxes w ca cb ((w.alloc (.cells ca 22)).alloc (.cells cb 22)) := by
  have h1 := heap_alloc_new (w.alloc (.cells ca 22)) (.cells cb 22)
  simp only [World.size_alloc] at h1
  refine ⟨((Below.refl _ _).alloc (Nat.le_refl _) _).alloc (by simp) _, ?_, h1⟩
  rw [Below.heap_alloc _ _ _ (by simp)]; exact heap_alloc_new w _

theorem idOf_box {w W : World} {ca cb : Array Value} (cs : Array Value) (z : Nat → Nat) (hz : ∀ i, z i < 256) (hcs : Bytes cs z) (h : Boxes w ca cb W) :
    Calls Yba.prog 5 #[.agg cs] W fun e w' => e = .returned (.agg (ids z)) ∧ Boxes w ca cb w' :=
  (idOf_any cs z hz hcs W).mono fun _ _ ⟨h1, h2⟩ => ⟨h1, h.kept h2⟩
theorem cmpid_box {w W : World} {ca cb : Array Value} (z y : Nat → Nat) (h : Boxes w ca cb W) :
    Calls Yba.prog 7 #[.agg (ids z), .agg (ids y)] W fun e w' => e = .returned (.int .i64 (cmpFrom (word z) (word y) 0 4)) ∧ Boxes w ca cb w' :=
  (cmpid_any (ids z) (ids y) (word z) (word y) (ids_at z) (ids_at y) W).mono fun _ _ ⟨h1, h2⟩ => ⟨h1, h.kept h2⟩
theorem cmpbytes_box {w W : World} {ca cb : Array Value} (z y : Nat → Nat) (hca : Bytes ca z) (hcb : Bytes cb y) (h : Boxes w ca cb W) :
    Calls Yba.prog 8 #[.agg ca, .agg cb] W fun e w' => e = .returned (.int .i64 (cmpFrom z y 0 32)) ∧ Boxes w ca cb w' :=
  (cmpbytes_any ca cb z y hca.2 hcb.2 W).mono fun _ _ ⟨h1, h2⟩ => ⟨h1, h.kept h2⟩

/-- Both arguments lie in their boxes, as ranges too. -/
theorem Boxes.keeps {w W : World} {la lb : List Value} (h : Boxes w la.toArray lb.toArray W) : W.rangeAt w.heap.size 0 la ∧ W.rangeAt (w.heap.size + 1) 0 lb ∧ Boxes w la.toArray lb.toArray W := by
  refine ⟨fun j v hv => ?_, fun j v hv => ?_, h⟩
  · rw [Nat.zero_add, cell_of_row W _ j _ _ _ h.a, ← hv]; simp
  · rw [Nat.zero_add, cell_of_row W _ j _ _ _ h.b, ← hv]; simp

set_option maxHeartbeats 1600000 in
theorem order_list (la lb : List Value) (z y : Nat → Nat) (hz : ∀ i, z i < 256) (hy : ∀ i, y i < 256) (hca : Bytes la.toArray z) (hcb : Bytes lb.toArray y) (w : World) :
    Calls Yba.prog 4 #[.agg la.toArray, .agg lb.toArray] w fun e w' => e = .returned (.bool true) ∧ Below w.heap.size w w' := by
  have hcmp := cmp_words z y hz hy 4
  have HX0 := Lib.hid ((Boxes.start w la.toArray lb.toArray).kept (Below.refl _ _).drew)
  have hu := Yba.underlying22
  have hla : la.length = 32 := hca.1
  have hlb : lb.length = 32 := hcb.1
  have hia : (Yba.prog.info? 22).map (·.size) = some la.length := by rw [hla]; kernel_rfl
  have hib : (Yba.prog.info? 22).map (·.size) = some lb.length := by rw [hlb]; kernel_rfl
  obtain ⟨r, hr⟩ : ∃ r, r = cmpFrom (word z) (word y) 0 4 := ⟨_, rfl⟩
  have H7 := Lib.hid (fun (W : World) (h : Boxes w la.toArray lb.toArray W) => cmpid_box z y h)
  have H8 := Lib.hid (fun (W : World) (h : Boxes w la.toArray lb.toArray W) => cmpbytes_box z y hca hcb h)
  rw [show 32 = 4 * 8 from rfl, ← hcmp] at H8
  rw [← hr] at H7 H8
  have H5a := Lib.hid (fun (W : World) (h : Boxes w la.toArray lb.toArray W) => idOf_box la.toArray z hz hca h)
  have H5b := Lib.hid (fun (W : World) (h : Boxes w la.toArray lb.toArray W) => idOf_box lb.toArray y hy hcb h)
  clear hcmp hr hca hcb
  obtain ⟨ia, hia'⟩ : ∃ ia, ia = ids z := ⟨_, rfl⟩
  obtain ⟨ib, hib'⟩ : ∃ ib, ib = ids y := ⟨_, rfl⟩
  rw [← hia'] at H5a
  rw [← hib'] at H5b
  rw [← hia', ← hib'] at H7
  clear hia' hib'
  go_enter Yba.func4, Yba.ntmps4
  go_wp2_with fail
  generalize (w.alloc (.cells la.toArray 22)).alloc (.cells lb.toArray 22) = W at *
  refine wp_region_held_drew (S := fun W => W.rangeAt w.heap.size 0 la ∧ W.rangeAt (w.heap.size + 1) 0 lb ∧ Boxes w la.toArray lb.toArray W) (by kernel_rfl) HX0.out.keeps (fun hHeld => ?_)
  refine wpAnyH_take (i := 0) (v := .agg la.toArray) rfl (by kernel_rfl) (by kernel_rfl) (by kernel_rfl) (fun _ _ _ h => h)
    (yieldsIf_load_mid (by rfl) 22 _ rfl _ 0 rfl la _ (fun _ h => h.1) hu rfl hia) hHeld ?_
  refine wpAnyH_take (i := 2) (v := .agg lb.toArray) rfl (by kernel_rfl) (by kernel_rfl) (by kernel_rfl) (fun _ _ _ h => h)
    (yieldsIf_load_mid (by rfl) 22 _ rfl _ 0 rfl lb _ (fun _ h => h.2.1) hu rfl hib) hHeld ?_
  refine wpAnyH_take (i := 5) (v := .agg la.toArray) rfl (by kernel_rfl) (by kernel_rfl) (by kernel_rfl) (fun _ _ _ h => h)
    (yieldsIf_load_mid (by rfl) 22 _ rfl _ 0 rfl la _ (fun _ h => h.1) hu rfl hia) hHeld ?_
  refine wpAnyH_take (i := 6) (v := .agg lb.toArray) rfl (by kernel_rfl) (by kernel_rfl) (by kernel_rfl) (fun _ _ _ h => h)
    (yieldsIf_load_mid (by rfl) 22 _ rfl _ 0 rfl lb _ (fun _ h => h.2.1) hu rfl hib) hHeld ?_
  refine wpAnyH_ready (rs := [1]) (by kernel_rfl) (by simp) ?_
  refine AllReadyH.cons rfl (fun K hK => ?_) .nil
  go_simp
  go_wp2_with (first | (go_at_call 5; refine (H5a.out _ hHeld.2.2).mono ?_; rintro e w1 ⟨rfl, hx1⟩))
  refine hK.out _ _ hx1.keeps (fun hHeld => ?_)
  clear hK K
  refine wpAnyH_ready (rs := [3]) (by kernel_rfl) (by simp) ?_
  refine AllReadyH.cons rfl (fun K hK => ?_) .nil
  go_simp
  go_wp2_with (first | (go_at_call 5; refine (H5b.out _ hHeld.2.2).mono ?_; rintro e w2 ⟨rfl, hx1⟩))
  refine hK.out _ _ hx1.keeps (fun hHeld => ?_)
  clear hK K
  refine wpAnyH_ready (rs := [4]) (by kernel_rfl) (by simp) ?_
  refine AllReadyH.cons rfl (fun K hK => ?_) .nil
  go_simp
  go_wp2_with (first | (go_at_call 7; refine (H7.out _ hHeld.2.2).mono ?_; rintro e w3 ⟨rfl, hx1⟩))
  refine hK.out _ _ hx1.keeps (fun hHeld => ?_)
  clear hK K
  refine wpAnyH_ready (rs := [7]) (by kernel_rfl) (by simp) ?_
  refine AllReadyH.cons rfl (fun K hK => ?_) .nil
  go_simp
  go_wp2_with (first | (go_at_call 8; refine (H8.out _ hHeld.2.2).mono ?_; rintro e w4 ⟨rfl, hx1⟩))
  refine hK.out _ _ hx1.keeps (fun hHeld => ?_)
  clear hK K
  refine wpAnyH_ready (rs := [8]) (by kernel_rfl) (by simp) ?_
  refine AllReadyH.cons rfl (fun K hK => ?_) .nil
  go_simp
  refine hK.out _ _ hHeld (fun hHeld => ?_)
  clear hK K
  refine wpAnyH_ready (rs := [9]) (by kernel_rfl) (by simp) ?_
  refine AllReadyH.cons rfl (fun K hK => ?_) .nil
  go_simp
  refine hK.out _ _ hHeld (fun hHeld => ?_)
  clear hK K
  refine wpAnyH_done (by kernel_rfl) ?_ _
  go_wp2_with fail
  go_ret
  exact ⟨rfl, hHeld.2.2.below⟩

theorem order (ca cb : Array Value) (z y : Nat → Nat) (hz : ∀ i, z i < 256) (hy : ∀ i, y i < 256) (hca : Bytes ca z) (hcb : Bytes cb y) (w : World) :
    Calls Yba.prog 4 #[.agg ca, .agg cb] w fun e w' => e = .returned (.bool true) ∧ Below w.heap.size w w' :=
  order_list ca.toList cb.toList z y hz hy hca hcb w
end Go.Proofs.Ybulkcuuy
