import Derived.Test.YbulkcuuyWords
namespace Go.Proofs.Ybulkcuuy
open Go.RowKit

theorem cmp_step (x y : Nat → Nat) (k N : Nat) (h : k < N) : cmpFrom x y k (N - k) = if x k = y k then cmpFrom x y (k + 1) (N - (k + 1)) else sgn (x k) (y k) := by
  rw [show N - k = (N - (k + 1)) + 1 by omega, cmpFrom]

theorem pair_cells (w : World) (ca cb : Array Value) (t : TypeId) (j : Nat) :
    ((w.alloc (.cells ca t)).alloc (.cells cb t)).cell? ⟨w.heap.size, j, none⟩ = ca[j]? ∧ ((w.alloc (.cells ca t)).alloc (.cells cb t)).cell? ⟨w.heap.size + 1, j, none⟩ = cb[j]? := by
  have h1 := heap_alloc_new (w.alloc (.cells ca t)) (.cells cb t)
  simp only [World.size_alloc] at h1
  refine ⟨?_, cell_of_row _ _ j cb t (0, 0) h1⟩
  have h0 : ((w.alloc (.cells ca t)).alloc (.cells cb t)).heap[w.heap.size]? = some (.cells ca t) := by
    rw [Below.heap_alloc _ _ _ (by simp)]; exact heap_alloc_new w _
  exact cell_of_row _ _ j ca t (0, 0) h0

set_option maxHeartbeats 800000 in
theorem cmpid_any (ca cb : Array Value) (X Y : Nat → Nat) (ha : ∀ i, i < 4 → ca[i]? = some (.int .u64 (X i : Int))) (hb : ∀ i, i < 4 → cb[i]? = some (.int .u64 (Y i : Int))) (w : World) :
    Calls Yba.prog 7 #[.agg ca, .agg cb] w fun e w' => e = .returned (.int .i64 (cmpFrom X Y 0 4)) ∧ Below w.heap.size w w' := by
  have hB : Below w.heap.size w ((w.alloc (.cells ca 25)).alloc (.cells cb 25)) := ((Below.refl _ _).alloc (Nat.le_refl _) _).alloc (by simp) _
  have hcells : ∀ j, j < 4 → ((w.alloc (.cells ca 25)).alloc (.cells cb 25)).cell? ⟨w.heap.size, j, none⟩ = some (.int .u64 (X j : Int)) ∧ ((w.alloc (.cells ca 25)).alloc (.cells cb 25)).cell? ⟨w.heap.size + 1, j, none⟩ = some (.int .u64 (Y j : Int)) := fun j hj => by
    have h := pair_cells w ca cb 25 j
    rw [ha j hj, hb j hj] at h
    exact h
  have HC := Lib.hid hcells
  have HB := Lib.hid hB
  clear hcells hB ha hb
  go_enter Yba.func7, Yba.ntmps7
  go_wp2_with fail
  generalize (w.alloc (.cells ca 25)).alloc (.cells cb 25) = W at *
  go_loopw [5] (fun i wr => ∃ (k q : Nat), k ≤ 4 ∧ i = .int .i64 k ∧ wr = W.drewN q ∧ cmpFrom X Y 0 4 = cmpFrom X Y k (4 - k)) (fun i _ => 4 - (intOf i).toNat)
  case atStart => exact ⟨0, 0, by omega, rfl, rfl, rfl⟩
  case round =>
    obtain ⟨k, q, hk, rfl, rfl, hcmp⟩ := hrel
    by_cases hlt : k < 4
    · obtain ⟨c1, c2⟩ := HC.out k hlt
      have hst := cmp_step X Y k 4 hlt
      rw [hst] at hcmp
      obtain ⟨x, hx⟩ : ∃ x, x = X k := ⟨_, rfl⟩
      obtain ⟨y, hy⟩ : ∃ y, y = Y k := ⟨_, rfl⟩
      rw [← hx] at c1 hcmp
      rw [← hy] at c2 hcmp
      have HCMP := Lib.hid hcmp
      clear hst hcmp hx hy
      by_cases h1 : x < y
      · have HR := Lib.hid (show cmpFrom X Y 0 4 = -1 by rw [HCMP.out, if_neg (by omega)]; simp [sgn, h1])
        go_wp2_with fail
        go_quiet (fail)
        go_wp2
        go_ret
        exact ⟨by rw [HR.out]; rfl, HB.out.trans ⟨rfl, rfl, rfl, Nat.le_refl _, fun _ _ => rfl⟩⟩
      · by_cases h2 : y < x
        · have HR := Lib.hid (show cmpFrom X Y 0 4 = 1 by rw [HCMP.out, if_neg (by omega)]; simp [sgn, h1, h2])
          go_wp2_with fail
          go_quiet (fail)
          go_wp2_with fail
          go_quiet (fail)
          go_wp2
          go_ret
          exact ⟨by rw [HR.out]; rfl, HB.out.trans ⟨rfl, rfl, rfl, Nat.le_refl _, fun _ _ => rfl⟩⟩
        · have HR := Lib.hid (show cmpFrom X Y 0 4 = cmpFrom X Y (k + 1) (4 - (k + 1)) by rw [HCMP.out, if_pos (by omega)])
          go_wp2_with fail
          go_quiet (fail)
          go_wp2_with fail
          go_quiet (fail)
          go_wp2
          go_roundw
          case rel => exact ⟨k + 1, _, by omega, by go_num, rfl, HR.out⟩
          case measure => simp [intOf]; omega
    · have hk4 : k = 4 := by omega
      subst hk4
      have HR := Lib.hid (show cmpFrom X Y 0 4 = 0 by rw [hcmp]; rfl)
      clear hcmp
      go_wp2
      go_ret
      exact ⟨by rw [HR.out]; rfl, HB.out.trans ⟨rfl, rfl, rfl, Nat.le_refl _, fun _ _ => rfl⟩⟩
set_option maxHeartbeats 800000 in
theorem cmpbytes_any (ca cb : Array Value) (X Y : Nat → Nat) (ha : ∀ i, i < 32 → ca[i]? = some (.int .u8 (X i : Int))) (hb : ∀ i, i < 32 → cb[i]? = some (.int .u8 (Y i : Int))) (w : World) :
    Calls Yba.prog 8 #[.agg ca, .agg cb] w fun e w' => e = .returned (.int .i64 (cmpFrom X Y 0 32)) ∧ Below w.heap.size w w' := by
  have hB : Below w.heap.size w ((w.alloc (.cells ca 22)).alloc (.cells cb 22)) := ((Below.refl _ _).alloc (Nat.le_refl _) _).alloc (by simp) _
  have hcells : ∀ j, j < 32 → ((w.alloc (.cells ca 22)).alloc (.cells cb 22)).cell? ⟨w.heap.size, j, none⟩ = some (.int .u8 (X j : Int)) ∧ ((w.alloc (.cells ca 22)).alloc (.cells cb 22)).cell? ⟨w.heap.size + 1, j, none⟩ = some (.int .u8 (Y j : Int)) := fun j hj => by
    have h := pair_cells w ca cb 22 j
    rw [ha j hj, hb j hj] at h
    exact h
  have HC := Lib.hid hcells
  have HB := Lib.hid hB
  clear hcells hB ha hb
  go_enter Yba.func8, Yba.ntmps8
  go_wp2_with fail
  generalize (w.alloc (.cells ca 22)).alloc (.cells cb 22) = W at *
  go_loopw [5] (fun i wr => ∃ (k q : Nat), k ≤ 32 ∧ i = .int .i64 k ∧ wr = W.drewN q ∧ cmpFrom X Y 0 32 = cmpFrom X Y k (32 - k)) (fun i _ => 32 - (intOf i).toNat)
  case atStart => exact ⟨0, 0, by omega, rfl, rfl, rfl⟩
  case round =>
    obtain ⟨k, q, hk, rfl, rfl, hcmp⟩ := hrel
    by_cases hlt : k < 32
    · obtain ⟨c1, c2⟩ := HC.out k hlt
      have hst := cmp_step X Y k 32 hlt
      rw [hst] at hcmp
      obtain ⟨x, hx⟩ : ∃ x, x = X k := ⟨_, rfl⟩
      obtain ⟨y, hy⟩ : ∃ y, y = Y k := ⟨_, rfl⟩
      rw [← hx] at c1 hcmp
      rw [← hy] at c2 hcmp
      have HCMP := Lib.hid hcmp
      clear hst hcmp hx hy
      by_cases h1 : x < y
      · have HR := Lib.hid (show cmpFrom X Y 0 32 = -1 by rw [HCMP.out, if_neg (by omega)]; simp [sgn, h1])
        go_wp2_with fail
        go_quiet (fail)
        go_wp2
        go_ret
        exact ⟨by rw [HR.out]; rfl, HB.out.trans ⟨rfl, rfl, rfl, Nat.le_refl _, fun _ _ => rfl⟩⟩
      · by_cases h2 : y < x
        · have HR := Lib.hid (show cmpFrom X Y 0 32 = 1 by rw [HCMP.out, if_neg (by omega)]; simp [sgn, h1, h2])
          go_wp2_with fail
          go_quiet (fail)
          go_wp2_with fail
          go_quiet (fail)
          go_wp2
          go_ret
          exact ⟨by rw [HR.out]; rfl, HB.out.trans ⟨rfl, rfl, rfl, Nat.le_refl _, fun _ _ => rfl⟩⟩
        · have HR := Lib.hid (show cmpFrom X Y 0 32 = cmpFrom X Y (k + 1) (32 - (k + 1)) by rw [HCMP.out, if_pos (by omega)])
          go_wp2_with fail
          go_quiet (fail)
          go_wp2_with fail
          go_quiet (fail)
          go_wp2
          go_roundw
          case rel => exact ⟨k + 1, _, by omega, by go_num, rfl, HR.out⟩
          case measure => simp [intOf]; omega
    · have hk32 : k = 32 := by omega
      subst hk32
      have HR := Lib.hid (show cmpFrom X Y 0 32 = 0 by rw [hcmp]; rfl)
      clear hcmp
      go_wp2
      go_ret
      exact ⟨by rw [HR.out]; rfl, HB.out.trans ⟨rfl, rfl, rfl, Nat.le_refl _, fun _ _ => rfl⟩⟩
end Go.Proofs.Ybulkcuuy
