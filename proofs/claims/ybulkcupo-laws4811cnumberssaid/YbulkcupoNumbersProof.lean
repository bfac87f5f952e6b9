import Derived.Test.YbulkcupoNum2
import Derived.Deep.Grids
import Derived.SliceStrings
import Derived.ProofKit
import Derived.OpenShut
import Derived.ShutString
import Derived.ChangeOld
import Derived.Below
namespace Go.Proofs.Ybulkcupo
namespace lawS4811CNumbers
open Go.ChangeShapes Go.WideShapes Go.ChangeAt Go.RowKit

theorem own : ownKnob Yba.prog.godebug = none := by kernel_rfl
theorem laidOut : laidOutB Yba.prog = true := by kernel_rfl

/-- A row of cells that came in. -/
def IsRow (w : World) (a : Option Addr) (len cap : Nat) (f : Nat → Value) : Prop :=
  (a = none ∧ len = 0 ∧ cap = 0) ∨ ∃ x, a = some x ∧ len ≤ cap ∧ cap ≤ maxLen ∧ ∀ i, i < len → w.cell? (x.add i) = some (f i)

theorem cells_of {w : World} {a : Option Addr} {len cap : Nat} {f : Nat → Value} (h : IsRow w a len cap f) :
    len ≤ 9223372036854775807 ∧ ∀ i, i < len → ∃ b off, a = some ⟨b, off, none⟩ ∧ w.cell? ⟨b, off + i, none⟩ = some (f i) ∧ b < w.heap.size := by
  rcases h with ⟨rfl, rfl, rfl⟩ | ⟨x, rfl, hl, hm, hc⟩
  · exact ⟨by omega, fun i hi => by omega⟩
  · unfold maxLen at hm
    refine ⟨by omega, fun i hi => ?_⟩
    obtain ⟨b, off, spot⟩ := x
    have hspot : spot = none := by
      have := World.cell?_spot (hc 0 (by omega))
      simpa [Addr.add] using this
    subst hspot
    have h1 := hc i hi
    rw [add_plain] at h1
    exact ⟨b, off, rfl, h1, World.block_lt_of_cell? w _ h1⟩

set_option maxRecDepth 100000 in
set_option maxHeartbeats 800000 in
theorem big1 (ia ta ca : Option Addr) (n0 icap tl tcap nc ccap : Nat) (hn : 1024 < n0) (hn2 : n0 ≤ 9223372036854775807) (w : World) :
    Calls Yba.prog 3 #[.slice ia n0 icap, .slice ta tl tcap, .slice ca nc ccap] w fun e w' => e = .returned (.bool true) ∧ Below w.heap.size w w' := by
  go_enter Yba.func3, Yba.ntmps3
  go_wp2_with fail
  go_ret
  exact ⟨rfl, Below.refl _ _⟩

set_option maxRecDepth 100000 in
set_option maxHeartbeats 800000 in
theorem big2 (ia ta ca : Option Addr) (n0 icap tl tcap nc ccap : Nat) (hn : n0 ≤ 1024) (hc : 1024 < nc) (hc2 : nc ≤ 9223372036854775807) (w : World) :
    Calls Yba.prog 3 #[.slice ia n0 icap, .slice ta tl tcap, .slice ca nc ccap] w fun e w' => e = .returned (.bool true) ∧ Below w.heap.size w w' := by
  have hd1 : decide ((1024 : Int) < (n0 : Int)) = false := by rw [decide_eq_false_iff_not]; omega
  go_enter Yba.func3, Yba.ntmps3
  go_wp2_with fail
  go_ret
  exact ⟨rfl, Below.refl _ _⟩

theorem walk (ia ta ca : Option Addr) (n0 icap tl tcap nc ccap : Nat) (I C : Nat → ByteArray) (T : Nat → Bool) (w : World)
    (hI : IsRow w ia n0 icap (fun i => .string (I i))) (hT : IsRow w ta tl tcap (fun i => .bool (T i))) (hC : IsRow w ca nc ccap (fun i => .string (C i))) :
    Calls Yba.prog 3 #[.slice ia n0 icap, .slice ta tl tcap, .slice ca nc ccap] w fun e w' => e = .returned (.bool true) ∧ Below w.heap.size w w' := by
  obtain ⟨li, hI⟩ := cells_of hI
  obtain ⟨lt, hT⟩ := cells_of hT
  obtain ⟨lc, hC⟩ := cells_of hC
  by_cases h1 : 1024 < n0
  · exact big1 ia ta ca n0 icap tl tcap nc ccap h1 li w
  by_cases h2 : 1024 < nc
  · exact big2 ia ta ca n0 icap tl tcap nc ccap (by omega) h2 lc w
  exact numbers ia ta ca n0 icap tl tcap nc ccap I C T (by omega) (by omega) lt w hI hC hT

theorem row_strings {H : Type} {enc : TypeId × Value → H} {W : World} {a : Option Addr} {len cap : Nat} {d : DataW H} {p : List MemPlace}
    (h : DataW.Trod enc Yba.prog W 0 (fun _ => true) true 22 (.slice a len cap) d p) : ∃ S : Nat → ByteArray, IsRow W a len cap (fun i => .string (S i)) := by
  obtain ⟨fuel, hf⟩ := h
  rcases open_strings Yba.underlying22 Yba.underlying9 (by kernel_rfl) hf with ⟨hcs, _⟩ | ⟨x, l, c, ss, hcs, _, hl, hm, hz, _, hcell, _⟩
  · simp [Value.cells] at hcs
    obtain ⟨rfl, rfl, rfl⟩ := hcs
    exact ⟨fun _ => ByteArray.empty, .inl ⟨rfl, rfl, rfl⟩⟩
  · simp [Value.cells] at hcs
    obtain ⟨rfl, rfl, rfl⟩ := hcs
    exact ⟨fun i => ss.getD i ByteArray.empty, .inr ⟨_, rfl, hl, hm, fun i hi => hcell i (by simp at hz; omega)⟩⟩

theorem row_bools {H : Type} {enc : TypeId × Value → H} {W : World} {a : Option Addr} {len cap : Nat} {d : DataW H} {p : List MemPlace}
    (h : DataW.Trod enc Yba.prog W 0 (fun _ => true) true 23 (.slice a len cap) d p) : ∃ S : Nat → Bool, IsRow W a len cap (fun i => .bool (S i)) := by
  obtain ⟨fuel, hf⟩ := h
  rcases Go.Deep.open_bools Yba.underlying23 Yba.underlying4 (by kernel_rfl) hf with ⟨hcs, _⟩ | ⟨x, l, c, B, hcs, _, hl, hm, _, hcell⟩
  · simp [Value.cells] at hcs
    obtain ⟨rfl, rfl, rfl⟩ := hcs
    exact ⟨fun _ => false, .inl ⟨rfl, rfl, rfl⟩⟩
  · simp [Value.cells] at hcs
    obtain ⟨rfl, rfl, rfl⟩ := hcs
    exact ⟨B, .inr ⟨_, rfl, hl, hm, fun i hi => hcell i (by omega)⟩⟩

set_option maxRecDepth 100000 in
theorem lifted (os : Os) (started : os.Started) (H : Type) (enc : TypeId × Value → H) :
    ReturnsInHanded {} Yba.checked os 3 .any (Rows.lawS4811CNumbersSpec.pre6 enc Yba.prog Yba.f3 Rows.lawS4811CNumbersRow.domain false) (Rows.lawS4811CNumbersSpec.post enc Yba.prog Yba.f3 false true false false) := by
  refine returnsInHanded_of_change (C := Yba.checked) own started (by kernel_rfl) Yba.func3
    (ChangeSpec.witness6 (enc := enc) (C := Yba.checked) false ⟨#[], #[.slice none 0 0, .slice none 0 0, .slice none 0 0], []⟩ 8 (by kernel_rfl) (by kernel_rfl) (by kernel_rfl) (by kernel_rfl)) ?_
  intro W base args ds gs before hval0 hW hcnd _
  have hval : ∀ (j : Nat) t v, Yba.f3.params[j]? = some t → args[j]? = some v → Value.okWide Yba.prog W .any base t v := hval0
  have hW' := hW
  obtain ⟨p, q, hA0, hV, rfl, hfz, hnd⟩ := hW
  have hA : DataW.TrodAll enc Yba.prog W 0 (fun _ => true) true Yba.f3.params.toList args.toList ds p := hA0
  rw [Yba.params3] at hA hval
  obtain ⟨v0, vs0, d0, ds0, p0, q0, hargs, rfl, rfl, h0, r0⟩ := trodAll_cons hA
  obtain ⟨v1, vs1, d1, ds1, p1, q1, rfl, rfl, rfl, h1, r1⟩ := trodAll_cons r0
  obtain ⟨v2, vs2, d2, ds2, p2, q2, rfl, rfl, rfl, h2, r2⟩ := trodAll_cons r1
  obtain ⟨rfl, rfl, rfl⟩ := trodAll_nil r2
  obtain rfl : args = #[v0, v1, v2] := by cases args; simp_all
  obtain ⟨rfl, rfl⟩ := trodVars_none hV
  obtain ⟨a0, len0, cap0, rfl⟩ := okWide_slice Yba.underlying22 (hval 0 22 v0 rfl rfl)
  obtain ⟨a1, len1, cap1, rfl⟩ := okWide_slice Yba.underlying23 (hval 1 23 v1 rfl rfl)
  obtain ⟨a2, len2, cap2, rfl⟩ := okWide_slice Yba.underlying22 (hval 2 22 v2 rfl rfl)
  have lt0 : ∀ x ∈ p0, x.block < W.heap.size := by obtain ⟨m, hm⟩ := h0; exact DataW.trod_lt m _ _ _ hm
  have lt1 : ∀ x ∈ p1, x.block < W.heap.size := by obtain ⟨m, hm⟩ := h1; exact DataW.trod_lt m _ _ _ hm
  have lt2 : ∀ x ∈ p2, x.block < W.heap.size := by obtain ⟨m, hm⟩ := h2; exact DataW.trod_lt m _ _ _ hm
  obtain ⟨S0, w0⟩ := row_strings h0
  obtain ⟨S1, w1⟩ := row_bools h1
  obtain ⟨S2, w2⟩ := row_strings h2
  clear hA0 hval0
  refine (walk a0 a1 a2 len0 cap0 len1 cap1 len2 cap2 S0 S2 S1 W w0 w1 w2).mono fun e W' ⟨he, bel⟩ => ?_
  subst he
  exact ⟨_, rfl, _, _, _, [], _, [], hW', trodAll_mk1 (shut_bool Yba.underlying4 _), (trodAll_cons_mk (Below.trod laidOut (by kernel_rfl) (of_decide_eq_true (by kernel_rfl)) h0 bel lt0) (trodAll_cons_mk (Below.trod laidOut (by kernel_rfl) (of_decide_eq_true (by kernel_rfl)) h1 bel lt1) (trodAll_cons_mk (Below.trod laidOut (by kernel_rfl) (of_decide_eq_true (by kernel_rfl)) h2 bel lt2) trodAll_mk0))), rfl, bel.frame _, fun h => by cases h⟩

theorem over : Rows.lawS4811CNumbersRow.holds Yba.pinned (OpenSpec.ofChange Rows.lawS4811CNumbersSpec) :=
  OpenClaim.holds_of_wide 3 Yba.f3 rfl rfl rfl rfl rfl rfl rfl ⟨rfl, rfl, rfl, rfl, rfl⟩ rfl rfl rfl rfl rfl (by kernel_rfl) Yba.func3 (by kernel_rfl)
    (of_decide_eq_true (by kernel_rfl)) (by unfold Func.isWrapper; first | (rw [if_pos (by decide +kernel)]; kernel_rfl) | (rw [if_neg (by decide +kernel)]; exact ⟨rfl, rfl⟩))
    (fun os started H enc _ => lifted os started H enc)
end lawS4811CNumbers

/-- THE STATEMENT. -/
theorem numbers_proved : Rows.LawS4811CNumbersSaid := lawS4811CNumbers.over
end Go.Proofs.Ybulkcupo
