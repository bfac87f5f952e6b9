import Derived.Test.YbulkcuomBd
import Derived.Test.YbulkcuomUn
import Derived.Lib.Hide
namespace Go.Proofs.Ybulkcuom
open Go.RowKit Go.MuLone
open Go.ChangeMaps (setBlock)

/-- Connection k marked. -/
def mark (f : Nat → Bool) (k i : Nat) : Bool := if i = k then true else f i

theorem ents_mark_out (c0 n k : Nat) (f : Nat → Bool) (hk : n ≤ k) : ents c0 (mark f k) n = ents c0 f n := by
  unfold ents
  congr 1
  refine List.map_congr_left fun i hi => ?_
  have : i < n := List.mem_range.1 hi
  simp [ent, mark, show ¬ i = k by omega]

theorem Built.same {w0 w w' : World} {B n k : Nat} {f : Nat → Bool} (h : Built w0 B n f k w) (s : Same w w') : Built w0 B n f k w' := by
  refine ⟨⟨s.os.trans h.below.os, s.tape.trans h.below.tape, s.output.trans h.below.output, by rw [s.size]; exact h.below.size, fun j hj => (s.block j).trans (h.below.block j hj)⟩, s.size.trans h.size, fun i hi => ?_, fun i hi => ?_, ?_, (s.block _).trans h.map⟩
  · rw [World.cell?_of_block (w := w) (s.block B)]; exact h.ptr i hi
  · obtain ⟨ca, ta, hc⟩ := h.conns i hi
    exact ⟨ca, ta, (s.block _).trans hc⟩
  · obtain ⟨cs, t, h1, h2, h3⟩ := h.free
    exact ⟨cs, t, (s.block _).trans h1, h2, h3⟩

theorem Built.turned {w0 w w' : World} {B n k : Nat} {f g : Nat → Bool} (h : Built w0 B n f k w) (s : Turned w w' (B + n + 2 + 1) (.map (ents (B + 1) g k) k)) : Built w0 B n g k w' := by
  refine ⟨⟨s.os.trans h.below.os, s.tape.trans h.below.tape, s.output.trans h.below.output, by rw [s.size]; exact h.below.size, fun j hj => (s.block j (by omega)).trans (h.below.block j hj)⟩, s.size.trans h.size, fun i hi => ?_, fun i hi => ?_, ?_, s.at_⟩
  · rw [World.cell?_of_block (w := w) (s.block B (by omega))]; exact h.ptr i hi
  · obtain ⟨ca, ta, hc⟩ := h.conns i hi
    exact ⟨ca, ta, (s.block _ (by omega)).trans hc⟩
  · obtain ⟨cs, t, h1, h2, h3⟩ := h.free
    exact ⟨cs, t, (s.block _ (by omega)).trans h1, h2, h3⟩

/-- 'a.take(conns[k])', whatever k. -/
theorem take_built {w0 w : World} {B n : Nat} {f : Nat → Bool} (k : Nat) (hk : k ≤ n) (h : Built w0 B n f n w) :
    Calls Yba.prog 6 #[.pointer (some ⟨B + n + 2, 0, none⟩), key (B + 1) k] w fun e w' => e = .returned (.tuple #[]) ∧ Built w0 B n (mark f k) n w' := by
  by_cases hlt : k < n
  · refine (take_open (B + n + 2) (B + n + 2 + 1) (B + 1) (n + 1) n k n f w h.free (by omega) h.conns hlt (by omega) h.map).mono ?_
    rintro e w' ⟨rfl, ht⟩
    exact ⟨rfl, h.turned ht⟩
  · refine (take_shut (B + n + 2) (B + n + 2 + 1) (B + 1) (n + 1) n k n f w h.free (by omega) h.conns (by omega) (by omega) h.map).mono ?_
    rintro e w' ⟨rfl, hs⟩
    refine ⟨rfl, ?_⟩
    have h' := h.same hs
    exact ⟨h'.below, h'.size, h'.ptr, h'.conns, h'.free, by rw [ents_mark_out _ _ _ _ (by omega)]; exact h'.map⟩

theorem mark_mark (f : Nat → Bool) (k : Nat) : mark (mark f k) k = mark f k := by
  funext i
  unfold mark
  split <;> rfl

theorem untaken_succ (f : Nat → Bool) (n : Nat) : untakenOf f (n + 1) = untakenOf f n + (if f n then 0 else 1) := by
  unfold untakenOf
  rw [List.range_succ, List.countP_append]
  cases h : f n <;> simp [h]
theorem untaken_le (f : Nat → Bool) (n : Nat) : untakenOf f n ≤ n := by
  unfold untakenOf
  exact Nat.le_trans List.countP_le_length (by simp)

set_option maxHeartbeats 1600000 in
theorem lawUn (a : Option Addr) (n cap p : Nat) (f : Nat → Bool) (hn : n ≤ 1024) (hp : p ≤ 255) (w : World)
    (hfl : ∀ i, i < n → ∃ fb foff, a = some ⟨fb, foff, none⟩ ∧ w.cell? ⟨fb, foff + i, none⟩ = some (.bool (f i)) ∧ fb < w.heap.size) :
    Calls Yba.prog 4 #[.slice a n cap, .int .u8 p] w fun e w' => e = .returned (.bool true) ∧ Below w.heap.size w w' := by
  obtain ⟨k, hk⟩ : ∃ k, k = p % (n + 1) := ⟨_, rfl⟩
  have hkn : k ≤ n := by have := Nat.mod_lt p (show 0 < n + 1 by omega); omega
  have hmod : (p : Int) % ((n : Int) + 1) = (k : Int) := by rw [hk, Int.natCast_emod]; rfl
  have HK := Lib.hid hk
  clear hk
  have hbuild := build_any a n cap f hn w hfl
  have HB := Lib.hid hbuild
  clear hbuild
  have hdec : decide ((1024 : Int) < (n : Int)) = false := by rw [decide_eq_false_iff_not]; omega
  go_enter Yba.func4, Yba.ntmps4
  go_wp2_with (go_at_call 5; refine (HB.out).mono ?_; rintro e w1 ⟨rfl, hbd⟩)
  rw [hmod]
  clear hmod HB
  go_loop [9, 10] (fun v i => ∃ j : Nat, j ≤ n ∧ i = .int .i64 j ∧ v = .int .i64 (untakenOf (mark f k) j)) (fun _ i => n - (intOf i).toNat)
  case atStart => exact ⟨0, Nat.zero_le _, rfl, rfl⟩
  case round =>
    obtain ⟨j, hj, rfl, rfl⟩ := hrel
    have hul := untaken_le (mark f k) j
    by_cases hlt : j < n
    · obtain ⟨fb, foff, rfl, hfc, hfb⟩ := hfl j hlt
      have hflag : w1.cell? ⟨fb, foff + j, none⟩ = some (.bool (f j)) := (hbd.below.cell (by exact hfb)).trans hfc
      have hus := untaken_succ (mark f k) j
      have HUS := Lib.hid hus
      clear hus hfl hfc
      by_cases hjk : j = k
      · have hjB : ((j : Int) != (k : Int)) = false := by rw [hjk]; simp
        have HM := Lib.hid (show mark f k j = true by unfold mark; rw [if_pos hjk])
        clear hjk
        cases hfj : f j with
        | true =>
          rw [hfj] at hflag
          clear hfj
          go_wp2
          go_round
          case rel => exact ⟨j + 1, by omega, by go_num, by rw [HUS.out, HM.out]; rfl⟩
          case measure => simp [intOf]; omega
        | false =>
          rw [hfj] at hflag
          clear hfj
          go_wp2
          go_round
          case rel => exact ⟨j + 1, by omega, by go_num, by rw [HUS.out, HM.out]; rfl⟩
          case measure => simp [intOf]; omega
      · have hjB : ((j : Int) != (k : Int)) = true := by rw [bne_iff_ne]; omega
        have HM := Lib.hid (show mark f k j = f j by unfold mark; rw [if_neg hjk])
        clear hjk
        cases hfj : f j with
        | true =>
          rw [hfj] at hflag HM
          clear hfj
          go_wp2
          go_round
          case rel => exact ⟨j + 1, by omega, by go_num, by rw [HUS.out, HM.out]; rfl⟩
          case measure => simp [intOf]; omega
        | false =>
          rw [hfj] at hflag HM
          clear hfj
          go_wp2
          go_round
          case rel => exact ⟨j + 1, by omega, by go_num, by rw [HUS.out, HM.out]; go_num⟩
          case measure => simp [intOf]; omega
    · have hjn : j = n := by omega
      subst hjn
      have hptr := hbd.ptr k hkn
      have HBD := Lib.hid hbd
      clear hfl hbd
      go_wp2_with (go_at_call 6; refine (take_built k hkn HBD.out).mono ?_; rintro e w2 ⟨rfl, hbd2⟩; refine Hid.out ?_)
      refine Lib.hid ?_
      have hptr2 := hbd2.ptr k hkn
      have HBD2 := Lib.hid hbd2
      clear hbd2
      go_wp2_with (go_at_call 6; refine (take_built k hkn HBD2.out).mono ?_; rintro e w3 ⟨rfl, hbd3⟩; refine Hid.out ?_)
      refine Lib.hid ?_
      rw [mark_mark] at hbd3
      have hun := untaken_any (w.heap.size + j + 2) (w.heap.size + j + 2 + 1) (w.heap.size + 1) j (mark f k) hn w3 hbd3.free (by omega) hbd3.map
      have HU := Lib.hid hun
      have H3 := Lib.hid hbd3
      clear hun hbd3
      go_wp2_with (go_at_call 9; refine (HU.out).mono ?_; rintro e w4 ⟨rfl, hb4⟩; refine Hid.out ?_)
      refine Lib.hid ?_
      have hin4 : w4.cell? ⟨w.heap.size + j + 2, 8, none⟩ = some (.map (some (w.heap.size + j + 2 + 1))) := (hb4.cell (by have := H3.out.size; show w.heap.size + j + 2 < _; omega)).trans H3.out.free.inn
      have hM4 : w4.heap[w.heap.size + j + 2 + 1]? = some (.map (ents (w.heap.size + 1) (mark f k) j) j) := (hb4.block _ (by have := H3.out.size; omega)).trans H3.out.map
      have hes : (ents (w.heap.size + 1) (mark f k) j).size = j := by simp [ents]
      obtain ⟨es, he⟩ : ∃ es, es = ents (w.heap.size + 1) (mark f k) j := ⟨_, rfl⟩
      rw [← he] at hM4 hes
      have hB4 : Below w.heap.size w w4 := H3.out.below.trans (hb4.mono (by have := H3.out.size; omega))
      have HB4 := Lib.hid hB4
      clear he hb4 hB4
      have hlen : (Builtin.len_ #[39] 3 #[.map (some (w.heap.size + j + 2 + 1))]).run Yba.prog w4 = .ok (.int .i64 (j : Int)) w4 := by
        have h := run_len_map (P := Yba.prog) w4 39 3 _ es j (by simp [Program.mapKeyOf, Program.mapElemOf, Yba.underlying39]) hM4
        rw [hes] at h
        exact h
      clear hes hM4
      go_wp2
      go_ret
      exact ⟨rfl, HB4.out⟩
end Go.Proofs.Ybulkcuom
