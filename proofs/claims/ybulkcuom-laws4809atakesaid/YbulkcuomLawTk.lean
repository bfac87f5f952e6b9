import Derived.Test.YbulkcuomLawUn
namespace Go.Proofs.Ybulkcuom
open Go.RowKit Go.MuLone
open Go.ChangeMaps (setBlock)

theorem Built.drew {w0 w : World} {B n k : Nat} {f : Nat → Bool} (h : Built w0 B n f k w) : Built w0 B n f k w.drew :=
  ⟨h.below.drew, h.size, h.ptr, h.conns, h.free, h.map⟩

/-- The lock tried, taken and given back. -/
theorem Built.tried {w0 w : World} {B n k : Nat} {f : Nat → Bool} (h : Built w0 B n f k w) : Built w0 B n f k ((w.setCell ⟨B + n + 2, 6, none⟩ (.int .i32 1)).setCell ⟨B + n + 2, 6, none⟩ (.int .i32 0)) :=
  h.same ⟨rfl, rfl, rfl, by simp [World.setCell], same_of h.free⟩

theorem unlock_built {w0 w : World} {B n k : Nat} {f : Nat → Bool} (h : Built w0 B n f k w) :
    Calls Yba.prog 8 #[.pointer (some ⟨B + n + 2, 6, none⟩)] (w.setCell ⟨B + n + 2, 6, none⟩ (.int .i32 1)) fun e w' => e = .returned (.tuple #[]) ∧ Built w0 B n f k w' := by
  have hfz := h.free.fz 6
  refine (unlock_held Yba.muLib ⟨B + n + 2, 6, none⟩ _ (World.cell?_setCell_same w ⟨B + n + 2, 6, none⟩ (.int .i32 1) h.free.mu) (by simp [hfz])).mono ?_
  rintro e w' ⟨rfl, rfl⟩
  exact ⟨rfl, h.tried⟩

theorem look_built {w0 w : World} {B n k : Nat} {f : Nat → Bool} (h : Built w0 B n f n w) (hk : k ≤ n) :
    (Instr.lookup 39 (.map (some (B + n + 2 + 1))) (.iface 28 (.pointer (some ⟨B + 1 + k, 0, none⟩))) true).run Yba.prog w = .ok (.tuple #[.bool (decide (k < n) && f k), .bool (decide (k < n))]) w :=
  look_run (B + 1) (n + 1) n k (B + n + 2 + 1) n f w h.conns (by omega) (by omega) h.map

theorem len_built {w0 w : World} {B n : Nat} {f : Nat → Bool} (h : Built w0 B n f n w) : (Builtin.len_ #[39] 3 #[.map (some (B + n + 2 + 1))]).run Yba.prog w = .ok (.int .i64 (n : Int)) w := by
  have hl := run_len_map (P := Yba.prog) w 39 3 _ _ n (by simp [Program.mapKeyOf, Program.mapElemOf, Yba.underlying39]) h.map
  rw [show (ents (B + 1) f n).size = n by simp [ents]] at hl
  exact hl

set_option maxHeartbeats 1600000 in
theorem lawTk_open (a : Option Addr) (n cap p : Nat) (f : Nat → Bool) (hn : n ≤ 1024) (hp : p ≤ 255) (w : World)
    (hfl : ∀ i, i < n → ∃ fb foff, a = some ⟨fb, foff, none⟩ ∧ w.cell? ⟨fb, foff + i, none⟩ = some (.bool (f i)) ∧ fb < w.heap.size) :
    Calls Yba.prog 3 #[.slice a n cap, .int .u8 p, .bool false] w fun e w' => e = .returned (.bool true) ∧ Below w.heap.size w w' := by
  obtain ⟨k, hk⟩ : ∃ k, k = p % (n + 1) := ⟨_, rfl⟩
  have hkn : k ≤ n := by have := Nat.mod_lt p (show 0 < n + 1 by omega); omega
  have hmod : (p : Int) % ((n : Int) + 1) = (k : Int) := by rw [hk, Int.natCast_emod]; rfl
  clear hk
  have hbuild := build_any a n cap f hn w hfl
  have HB := Lib.hid hbuild
  clear hbuild
  have hdec : decide ((1024 : Int) < (n : Int)) = false := by rw [decide_eq_false_iff_not]; omega
  go_enter Yba.func3, Yba.ntmps3
  go_wp2_with (go_at_call 5; refine (HB.out).mono ?_; rintro e w1 ⟨rfl, hbd⟩; refine Hid.out ?_)
  refine Lib.hid ?_
  have hptr := hbd.ptr k hkn
  have HBD := Lib.hid hbd
  clear hbd HB
  go_wp2_with (go_at_call 6; refine (take_built k hkn HBD.out).mono ?_; rintro e w2 ⟨rfl, hbd2⟩; refine Hid.out ?_)
  refine Lib.hid ?_
  have H2 := Lib.hid hbd2
  have hmu2 := hbd2.free.mu
  have hfz2 := hbd2.free.fz 6
  clear hbd2
  go_wp2_with (go_at_call 7; refine (try_free _ _ hmu2 hfz2).mono ?_; rintro e w3 ⟨rfl, rfl⟩; refine Hid.out ?_)
  refine Lib.hid ?_
  go_wp2_with (go_at_call 8; refine (unlock_built H2.out).mono ?_; rintro e w4 ⟨rfl, hbd4⟩; refine Hid.out ?_)
  refine Lib.hid ?_
  clear hmu2 hfz2
  have hin4 := hbd4.free.inn
  have hptr4 := hbd4.ptr n (Nat.le_refl _)
  have hlk4 := look_built hbd4.drew (Nat.le_refl n)
  rw [show decide (n < n) = false by simp, Bool.false_and] at hlk4
  have hlen := len_built hbd4
  have H4 := Lib.hid hbd4
  have hnn : ((n : Int) != (n : Int)) = false := by simp
  clear hbd4
  go_wp2_with fail
  go_region
  go_wp2_with fail
  clear hin4 hptr4 hlk4 hlen hptr HBD H2
  go_loopw [13] (fun i wr => ∃ j : Nat, j ≤ n ∧ i = .int .i64 j ∧ Built w w.heap.size n (mark f k) n wr) (fun i _ => n - (intOf i).toNat)
  case atStart => exact ⟨0, Nat.zero_le _, rfl, H4.out.drew⟩
  case round =>
    obtain ⟨j, hj, rfl, hbr⟩ := hrel
    by_cases hlt : j < n
    · obtain ⟨fb, foff, rfl, hfc, hfb⟩ := hfl j hlt
      have hflag : wr.cell? ⟨fb, foff + j, none⟩ = some (.bool (f j)) := (hbr.below.cell (by exact hfb)).trans hfc
      have hin := hbr.free.inn
      have hptr := hbr.ptr j (by omega)
      have hlk := look_built hbr.drew (k := j) (by omega)
      rw [show decide (j < n) = true by simpa using hlt, Bool.true_and] at hlk
      have HR := Lib.hid hbr
      clear hfl hfc hbr
      by_cases hjk : j = k
      · have hjB : ((j : Int) == (k : Int)) = true := by rw [hjk]; simp
        rw [show mark f k j = true by unfold mark; rw [if_pos hjk]] at hlk
        clear hjk
        cases hfj : f j with
        | true =>
          rw [hfj] at hflag
          clear hfj
          go_wp2_with fail
          go_region
          go_wp2
          go_roundw
          case rel => exact ⟨j + 1, by omega, by go_num, HR.out.drew⟩
          case measure => simp [intOf]; omega
        | false =>
          rw [hfj] at hflag
          clear hfj
          go_wp2_with fail
          go_region
          go_wp2
          go_roundw
          case rel => exact ⟨j + 1, by omega, by go_num, HR.out.drew⟩
          case measure => simp [intOf]; omega
      · have hjB : ((j : Int) == (k : Int)) = false := by rw [beq_eq_false_iff_ne]; omega
        rw [show mark f k j = f j by unfold mark; rw [if_neg hjk]] at hlk
        clear hjk
        cases hfj : f j with
        | true =>
          rw [hfj] at hflag hlk
          clear hfj
          go_wp2_with fail
          go_region
          go_wp2
          go_roundw
          case rel => exact ⟨j + 1, by omega, by go_num, HR.out.drew⟩
          case measure => simp [intOf]; omega
        | false =>
          rw [hfj] at hflag hlk
          clear hfj
          go_wp2_with fail
          go_region
          go_wp2
          go_roundw
          case rel => exact ⟨j + 1, by omega, by go_num, HR.out.drew⟩
          case measure => simp [intOf]; omega
    · have HR := Lib.hid hbr.below
      clear hbr hfl
      go_wp2
      go_ret
      exact ⟨rfl, HR.out⟩
end Go.Proofs.Ybulkcuom
