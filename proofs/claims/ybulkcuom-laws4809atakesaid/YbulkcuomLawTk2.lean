import Derived.Test.YbulkcuomLawTk
namespace Go.Proofs.Ybulkcuom
open Go.RowKit Go.MuLone
open Go.ChangeMaps (setBlock)

/-- A stopped acceptor is built. -/
structure Nilled (w0 : World) (B n : Nat) (w : World) : Prop where
  below : Below B w0 w
  ptr : ∀ i, i ≤ n → w.cell? ⟨B, i, none⟩ = some (.pointer (some ⟨B + 1 + i, 0, none⟩))
  free : Free w (B + n + 2) (.map none)

theorem Nilled.start {w0 w : World} {B n : Nat} (h : Made w0 B n (n + 1) w) (cs : Array Value) (h6 : cs[6]? = some (.int .i32 0)) (h8 : cs[8]? = some (.map none)) :
    Nilled w0 B n (w.alloc (.cells cs 48)) := by
  have hs := h.size
  have hA : (w.alloc (.cells cs 48)).heap[B + n + 2]? = some (.cells cs 48) := by
    rw [show B + n + 2 = w.heap.size by omega]; exact heap_alloc_new _ _
  refine ⟨h.below.alloc (by omega) _, fun i hi => ?_, ⟨cs, 48, hA, h6, h8⟩⟩
  rw [World.cell?_of_block (w := w) (Below.heap_alloc _ _ _ (by show B < _; omega))]; exact h.ptr i (by omega)

theorem Nilled.same {w0 w w' : World} {B n : Nat} (h : Nilled w0 B n w) (s : Same w w') : Nilled w0 B n w' := by
  refine ⟨⟨s.os.trans h.below.os, s.tape.trans h.below.tape, s.output.trans h.below.output, by rw [s.size]; exact h.below.size, fun j hj => (s.block j).trans (h.below.block j hj)⟩, fun i hi => ?_, ?_⟩
  · rw [World.cell?_of_block (w := w) (s.block B)]; exact h.ptr i hi
  · obtain ⟨cs, t, h1, h2, h3⟩ := h.free
    exact ⟨cs, t, (s.block _).trans h1, h2, h3⟩

theorem Nilled.take {w0 w : World} {B n : Nat} (k : Nat) (h : Nilled w0 B n w) :
    Calls Yba.prog 6 #[.pointer (some ⟨B + n + 2, 0, none⟩), key (B + 1) k] w fun e w' => e = .returned (.tuple #[]) ∧ Nilled w0 B n w' := by
  refine (take_nil (B + n + 2) (B + 1) k w h.free).mono ?_
  rintro e w' ⟨rfl, hs⟩
  exact ⟨rfl, h.same hs⟩

theorem Nilled.unlock {w0 w : World} {B n : Nat} (h : Nilled w0 B n w) :
    Calls Yba.prog 8 #[.pointer (some ⟨B + n + 2, 6, none⟩)] (w.setCell ⟨B + n + 2, 6, none⟩ (.int .i32 1)) fun e w' => e = .returned (.tuple #[]) ∧ Nilled w0 B n w' := by
  have hfz := h.free.fz 6
  refine (unlock_held Yba.muLib ⟨B + n + 2, 6, none⟩ _ (World.cell?_setCell_same w ⟨B + n + 2, 6, none⟩ (.int .i32 1) h.free.mu) (by simp [hfz])).mono ?_
  rintro e w' ⟨rfl, rfl⟩
  exact ⟨rfl, h.same ⟨rfl, rfl, rfl, by simp [World.setCell], same_of h.free⟩⟩

set_option maxHeartbeats 1600000 in
theorem build_nil (a : Option Addr) (n cap : Nat) (hn : n ≤ 1024) (w : World) :
    Calls Yba.prog 5 #[.slice a n cap, .bool true] w fun e w' => e = .returned (.tuple #[.pointer (some ⟨w.heap.size + n + 2, 0, none⟩), .slice (some ⟨w.heap.size, 0, none⟩) (n + 1) (n + 1)]) ∧ Nilled w w.heap.size n w' := by
  have hmk := make_conns n hn
  go_enter Yba.func5, Yba.ntmps5
  go_wp2_with fail
  go_loopw [8] (fun i wr => ∃ k : Nat, k ≤ n + 1 ∧ i = .int .i64 k ∧ Made w w.heap.size n k wr) (fun i _ => n + 1 - (intOf i).toNat)
  case atStart => exact ⟨0, Nat.zero_le _, rfl, Made.start w n⟩
  case round =>
    obtain ⟨k, hk, rfl, hmd⟩ := hrel
    by_cases hlt : k ≤ n
    · obtain ⟨v, hv⟩ := hmd.cell k hlt
      have hfz := hmd.fz k
      have hsz : w.heap.size < wr.heap.size := by have := hmd.size; omega
      go_wp2
      go_roundw
      case rel => exact ⟨k + 1, by omega, by go_num, hmd.next hlt _⟩
      case measure => simp [intOf]; omega
    · have hkn : k = n + 1 := by omega
      subst hkn
      have hsz : wr.heap.size = w.heap.size + n + 2 := by rw [hmd.size]; omega
      have hdec : decide ((n : Int) + 1 ≤ (n : Int)) = false := by rw [decide_eq_false_iff_not]; omega
      go_wp2
      go_ret2
      exact ⟨rfl, Nilled.start hmd _ rfl rfl⟩

set_option maxHeartbeats 1600000 in
theorem lawTk_nil (a : Option Addr) (n cap p : Nat) (hn : n ≤ 1024) (hp : p ≤ 255) (w : World) :
    Calls Yba.prog 3 #[.slice a n cap, .int .u8 p, .bool true] w fun e w' => e = .returned (.bool true) ∧ Below w.heap.size w w' := by
  obtain ⟨k, hk⟩ : ∃ k, k = p % (n + 1) := ⟨_, rfl⟩
  have hkn : k ≤ n := by have := Nat.mod_lt p (show 0 < n + 1 by omega); omega
  have hmod : (p : Int) % ((n : Int) + 1) = (k : Int) := by rw [hk, Int.natCast_emod]; rfl
  clear hk
  have HB := Lib.hid (build_nil a n cap hn w)
  have hdec : decide ((1024 : Int) < (n : Int)) = false := by rw [decide_eq_false_iff_not]; omega
  have q39 : ∀ (w : World) (r : Option Nat), (binOp .eql 39 (.map r) (.map none)).run Yba.prog w = .ok (.bool r.isNone) w := fun w r => run_eql_map_nil w _ _ _ r Yba.underlying39
  go_enter Yba.func3, Yba.ntmps3
  go_wp2_with (go_at_call 5; refine (HB.out).mono ?_; rintro e w1 ⟨rfl, hbd⟩; refine Hid.out ?_)
  refine Lib.hid ?_
  have hptr := hbd.ptr k hkn
  have HBD := Lib.hid hbd
  clear hbd HB
  go_wp2_with (go_at_call 6; refine (HBD.out.take k).mono ?_; rintro e w2 ⟨rfl, hbd2⟩; refine Hid.out ?_)
  refine Lib.hid ?_
  have H2 := Lib.hid hbd2
  have hmu2 := hbd2.free.mu
  have hfz2 := hbd2.free.fz 6
  clear hbd2
  go_wp2_with (go_at_call 7; refine (try_free _ _ hmu2 hfz2).mono ?_; rintro e w3 ⟨rfl, rfl⟩; refine Hid.out ?_)
  refine Lib.hid ?_
  go_wp2_with (go_at_call 8; refine (H2.out.unlock).mono ?_; rintro e w4 ⟨rfl, hbd4⟩; refine Hid.out ?_)
  refine Lib.hid ?_
  clear hmu2 hfz2
  have hin4 := hbd4.free.inn
  have H4 := Lib.hid hbd4.below
  clear hbd4
  go_wp2
  go_ret
  exact ⟨rfl, H4.out⟩
end Go.Proofs.Ybulkcuom
