import Derived.Test.YbulkcupoRows
import Derived.WalkKit
import Derived.WalkSpells
import Derived.Lib.Hide
namespace Go.Proofs.Ybulkcupo
open Go.RowKit

/-- r is the first place among the first m at which nm stands, or -1. -/
def IsFirst (V : Nat → ByteArray × Bool) (nm : ByteArray) (m : Nat) (r : Int) : Prop :=
  (∃ i : Nat, i < m ∧ r = (i : Int) ∧ (V i).1.toList = nm.toList ∧ ∀ j, j < i → (V j).1.toList ≠ nm.toList) ∨ (r = -1 ∧ ∀ j, j < m → (V j).1.toList ≠ nm.toList)

set_option maxHeartbeats 800000 in
theorem idx_any (g cap m c : Nat) (nm : ByteArray) (V : Nat → ByteArray × Bool) (hm : m ≤ 100000) (w : World) (hcap : w.cell? ⟨c, 0, none⟩ = some (.string nm)) (hcb : c < w.heap.size) (hgb : 0 < m → g < w.heap.size)
    (h0 : ∀ i, i < m → w.cell? ⟨g, i * 3, none⟩ = some (.string (V i).1)) (h1 : ∀ i, i < m → w.cell? ⟨g, i * 3 + 1, none⟩ = some (.slice none 0 0)) (h2 : ∀ i, i < m → w.cell? ⟨g, i * 3 + 2, none⟩ = some (.bool (V i).2)) :
    Calls Yba.prog 7 #[.slice (some ⟨g, 0, none⟩) m cap, .func (.func 8) #[] #[.pointer (some ⟨c, 0, none⟩)]] w fun e w' => ∃ r, e = .returned (.int .i64 r) ∧ IsFirst V nm m r ∧ Below w.heap.size w w' := by
  go_enter Yba.func7, Yba.ntmps7
  go_wp2_with fail
  go_loopw [8] (fun i wr => ∃ k : Nat, k ≤ m ∧ i = .int .i64 k ∧ (∀ j, j < k → (V j).1.toList ≠ nm.toList) ∧ Below w.heap.size w wr) (fun i _ => m - (intOf i).toNat)
  case atStart => exact ⟨0, Nat.zero_le _, rfl, fun j hj => by omega, Below.refl _ _⟩
  case round =>
    obtain ⟨k, hk, rfl, hno, hnx⟩ := hrel
    by_cases hlt : k < m
    · have hgw := hgb (by omega)
      have c0 : wr.cell? ⟨g, k * 3, none⟩ = some (.string (V k).1) := (hnx.cell (by exact hgw)).trans (h0 k hlt)
      have c1 : wr.cell? ⟨g, k * 3 + 1, none⟩ = some (.slice none 0 0) := (hnx.cell (by exact hgw)).trans (h1 k hlt)
      have c2 : wr.cell? ⟨g, k * 3 + 2, none⟩ = some (.bool (V k).2) := (hnx.cell (by exact hgw)).trans (h2 k hlt)
      have cc : wr.cell? ⟨c, 0, none⟩ = some (.string nm) := (hnx.cell (by exact hcb)).trans hcap
      have hcr : c < wr.heap.size := by have := hnx.size; omega
      have HNO := Lib.hid hno
      obtain ⟨v1, hv1⟩ : ∃ v1, v1 = (V k).1 := ⟨_, rfl⟩
      obtain ⟨v2, hv2⟩ : ∃ v2, v2 = (V k).2 := ⟨_, rfl⟩
      rw [← hv1] at c0
      rw [← hv2] at c2
      have HV := Lib.hid hv1
      clear h0 h1 h2 hcap hno hv1 hv2
      by_cases hq : v1.toList = nm.toList
      · have hqB : (v1.toList == nm.toList) = true := by rw [beq_iff_eq]; exact hq
        have HQ := Lib.hid hq
        clear hq
        go_wp2
        go_ret
        exact ⟨(k : Int), rfl, .inl ⟨k, hlt, rfl, by rw [← HV.out]; exact HQ.out, HNO.out⟩, hnx.alloc hnx.size _⟩
      · have hqB : (v1.toList == nm.toList) = false := by rw [beq_eq_false_iff_ne]; exact hq
        have HQ := Lib.hid hq
        clear hq
        go_wp2
        go_roundw
        case rel =>
          refine ⟨k + 1, by omega, by go_num, fun j hj => ?_, hnx.alloc hnx.size _⟩
          by_cases hjk : j = k
          · subst hjk; rw [← HV.out]; exact HQ.out
          · exact HNO.out j (by omega)
        case measure => simp [intOf]; omega
    · have hkm : k = m := by omega
      subst hkm
      have HNO := Lib.hid hno
      clear h0 h1 h2 hcap hno
      go_wp2
      go_ret
      exact ⟨-1, rfl, .inr ⟨rfl, HNO.out⟩, hnx⟩

set_option maxHeartbeats 800000 in
theorem idx_none (cap c : Nat) (nm : ByteArray) (V : Nat → ByteArray × Bool) (w : World) :
    Calls Yba.prog 7 #[.slice none 0 cap, .func (.func 8) #[] #[.pointer (some ⟨c, 0, none⟩)]] w fun e w' => ∃ r, e = .returned (.int .i64 r) ∧ IsFirst V nm 0 r ∧ Below w.heap.size w w' := by
  go_enter Yba.func7, Yba.ntmps7
  go_wp2_with fail
  go_loopw [8] (fun i wr => i = .int .i64 0 ∧ wr = w) (fun i _ => 0)
  case atStart => exact ⟨rfl, rfl⟩
  case round =>
    obtain ⟨rfl, rfl⟩ := hrel
    go_wp2
    go_ret
    exact ⟨-1, rfl, .inr ⟨rfl, fun j hj => by omega⟩, Below.refl _ _⟩
end Go.Proofs.Ybulkcupo
