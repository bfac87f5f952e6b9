import Derived.Test.YbulkcuuyId
import Derived.Lib.EndianBits
namespace Go.Proofs.Ybulkcuuy
open Go.RowKit

theorem or8 (x y : Nat) (hx : x < 72057594037927936) (hy : y < 256) : bits .or .u64 ((x : Int) * 256) (y : Int) = ((x * 256 + y : Nat) : Int) := by
  rw [bits_join .u64 64 (by decide) wraps_u64 8 ((x : Int) * 256) (y : Int) (by omega) (by omega) (by omega) (by omega) (by omega) (by omega)]
  omega

set_option maxHeartbeats 800000 in
theorem model_any (cs : Array Value) (z : Nat → Nat) (hz : ∀ i, z i < 256) (hcs : Bytes cs z) (w : World) :
    Calls Yba.prog 6 #[.agg cs] w fun e w' => e = .returned (.agg #[.int .u64 (word z 0), .int .u64 (word z 1), .int .u64 (word z 2), .int .u64 (word z 3)]) ∧ Below w.heap.size w w' := by
  go_enter Yba.func6, Yba.ntmps6
  go_wp2_with fail
  go_loopw [4] (fun i wr => ∃ j : Nat, j ≤ 32 ∧ i = .int .i64 j ∧ IdSt w 24 cs (sofar z j) wr) (fun i _ => 32 - (intOf i).toNat)
  case atStart => exact ⟨0, by omega, rfl, by rw [show sofar z 0 = fun _ => 0 from funext (sofar_zero z)]; exact IdSt.start w 24 cs⟩
  case round =>
    obtain ⟨j, hj, rfl, hst⟩ := hrel
    by_cases hlt : j < 32
    · obtain ⟨k, hk⟩ : ∃ k, k = j / 8 := ⟨_, rfl⟩
      have hk4 : k < 4 := by omega
      have hdiv : (j : Int) / 8 = (k : Int) := by rw [hk]; omega
      have cb := hst.byte hcs j hlt
      have cw := hst.cell k hk4
      have fw := hst.fz k
      have hx := sofar_small z hz j
      have hy := hz j
      rw [← hk] at hx
      have HH := Lib.hid (sofar_here z j)
      rw [← hk] at HH
      obtain ⟨x, hxx⟩ : ∃ x, x = sofar z j k := ⟨_, rfl⟩
      obtain ⟨y, hyy⟩ : ∃ y, y = z j := ⟨_, rfl⟩
      rw [← hxx] at cw hx HH
      rw [← hyy] at cb hy HH
      have HK := Lib.hid hk
      have HS := Lib.hid hst
      have hsz := hst.size
      clear hst hk hxx hyy
      go_wp2_with fail
      clear hdiv
      have hor := or8 x y hx hy
      obtain ⟨v, hv⟩ : ∃ v, v = x * 256 + y := ⟨_, rfl⟩
      rw [← hv] at hor HH
      clear hv
      have hd : decide ((j : Int) < 32) = true := by rw [decide_eq_true_iff]; omega
      go_region
      have HN := Lib.hid ((HS.out.store (g := sofar z (j + 1)) k hk4 v (fun i _ => by
        by_cases h1 : i = k
        · subst h1; rw [if_pos rfl]; exact HH.out
        · rw [if_neg h1]; exact sofar_other z j i (by rw [← HK.out]; exact h1))).kept (Below.refl _ _).drew)
      clear hor
      go_wp2
      go_roundw
      case rel => exact ⟨j + 1, by omega, by go_num, HN.out⟩
      case measure => simp [intOf]; omega
    · have hj32 : j = 32 := by omega
      subst hj32
      have c0 := hst.cell 0 (by omega)
      have c1 := hst.cell 1 (by omega)
      have c2 := hst.cell 2 (by omega)
      have c3 := hst.cell 3 (by omega)
      rw [sofar_end z _ (by omega)] at c0 c1 c2 c3
      have r0 : wr.cell? ⟨w.heap.size + 1, 0, none⟩ = some (.int .u64 0) := by rw [cell_of_row wr _ 0 _ 24 (0, 0) hst.res]; rfl
      have r1 : wr.cell? ⟨w.heap.size + 1, 1, none⟩ = some (.int .u64 0) := by rw [cell_of_row wr _ 1 _ 24 (0, 0) hst.res]; rfl
      have r2 : wr.cell? ⟨w.heap.size + 1, 2, none⟩ = some (.int .u64 0) := by rw [cell_of_row wr _ 2 _ 24 (0, 0) hst.res]; rfl
      have r3 : wr.cell? ⟨w.heap.size + 1, 3, none⟩ = some (.int .u64 0) := by rw [cell_of_row wr _ 3 _ 24 (0, 0) hst.res]; rfl
      have f0 : ∀ j, wr.frozen? ⟨w.heap.size + 1, j, none⟩ = false := fun j => by simp [World.frozen?, hst.res]
      obtain ⟨x0, hx0⟩ : ∃ x, x = word z 0 := ⟨_, rfl⟩
      obtain ⟨x1, hx1⟩ : ∃ x, x = word z 1 := ⟨_, rfl⟩
      obtain ⟨x2, hx2⟩ : ∃ x, x = word z 2 := ⟨_, rfl⟩
      obtain ⟨x3, hx3⟩ : ∃ x, x = word z 3 := ⟨_, rfl⟩
      rw [← hx0] at c0
      rw [← hx1] at c1
      rw [← hx2] at c2
      rw [← hx3] at c3
      have HX := Lib.hid (And.intro hx0 (And.intro hx1 (And.intro hx2 hx3)))
      have HB := Lib.hid hst.below
      clear hst hx0 hx1 hx2 hx3
      go_wp2
      refine bodyPost_ret (v := .agg #[.int .u64 x0, .int .u64 x1, .int .u64 x2, .int .u64 x3]) (by simp [results, Yba.results6, go_sem, r0, r1, r2, r3]) rfl ⟨?_, ?_⟩
      · obtain ⟨e0, e1, e2, e3⟩ := HX.out
        rw [e0, e1, e2, e3]
      · exact (((HB.out.setCell (Nat.le_succ _) _).setCell (Nat.le_succ _) _).setCell (Nat.le_succ _) _).setCell (Nat.le_succ _) _
end Go.Proofs.Ybulkcuuy
