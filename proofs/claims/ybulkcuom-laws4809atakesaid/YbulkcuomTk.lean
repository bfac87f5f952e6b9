import Derived.Test.YbulkcuomLocks
import Derived.Test.YbulkcuomMap
import Derived.WalkSpells
import Derived.Defers
namespace Go.Proofs.Ybulkcuom
open Go.RowKit Go.MuLone
open Go.ChangeMaps (setBlock)

/-- w' is w but for block M, which is o. -/
structure Turned (w w' : World) (M : Nat) (o : Obj) : Prop where
  os : w'.os = w.os
  tape : w'.tape = w.tape
  output : w'.output = w.output
  size : w'.heap.size = w.heap.size
  at_ : w'.heap[M]? = some o
  block : ∀ j, j ≠ M → w'.heap[j]? = w.heap[j]?

theorem heap_setCell_at {w : World} {A i : Nat} {cs : Array Value} {t : TypeId} {fr : Nat × Nat} (h : w.heap[A]? = some (.cells cs t fr)) (v : Value) :
    (w.setCell ⟨A, i, none⟩ v).heap[A]? = some (.cells (cs.setIfInBounds i v) t fr) := by
  simp [World.setCell, Array.getElem?_modify, h]

theorem heap_setBlock_other (w : World) (M j : Nat) (o : Obj) (h : j ≠ M) : (setBlock w M o).heap[j]? = w.heap[j]? := by
  simp only [setBlock]
  rw [Array.getElem?_setIfInBounds_ne (by omega)]

theorem heap_setBlock_at (w : World) (M : Nat) (o : Obj) (h : M < w.heap.size) : (setBlock w M o).heap[M]? = some o := by
  simp [setBlock, h]

/-- The acceptor's cells, the lock free. -/
def Free (w : World) (A : Nat) (mp : Value) : Prop := ∃ cs t, w.heap[A]? = some (.cells cs t (0, 0)) ∧ cs[6]? = some (.int .i32 0) ∧ cs[8]? = some mp

theorem Free.mu {w : World} {A : Nat} {mp : Value} (h : Free w A mp) : w.cell? ⟨A, 6, none⟩ = some (.int .i32 0) := by
  obtain ⟨cs, t, h1, h2, _⟩ := h
  rw [cell_of_row w A 6 cs t (0, 0) h1]; exact h2
theorem Free.inn {w : World} {A : Nat} {mp : Value} (h : Free w A mp) : w.cell? ⟨A, 8, none⟩ = some mp := by
  obtain ⟨cs, t, h1, _, h3⟩ := h
  rw [cell_of_row w A 8 cs t (0, 0) h1]; exact h3
theorem Free.fz {w : World} {A : Nat} {mp : Value} (h : Free w A mp) (i : Nat) : w.frozen? ⟨A, i, none⟩ = false := by
  obtain ⟨cs, t, h1, _, _⟩ := h
  simp [World.frozen?, h1]

/-- The lock taken, block M turned, the lock given back. -/
theorem turned_of {w : World} {A M : Nat} {mp : Value} (hA : Free w A mp) (hne : A ≠ M) (hM : M < w.heap.size) (o : Obj) :
    Turned w ((setBlock (w.setCell ⟨A, 6, none⟩ (.int .i32 1)) M o).setCell ⟨A, 6, none⟩ (.int .i32 0)) M o := by
  obtain ⟨cs, t, h1, h2, _⟩ := hA
  have hb : (setBlock (w.setCell ⟨A, 6, none⟩ (.int .i32 1)) M o).heap[A]? = some (.cells (cs.setIfInBounds 6 (.int .i32 1)) t (0, 0)) := by
    rw [heap_setBlock_other _ _ _ _ hne]; exact heap_setCell_at h1 _
  refine ⟨rfl, rfl, rfl, by simp [World.setCell, setBlock], ?_, ?_⟩
  · rw [Below.heap_setCell _ _ _ _ (by exact fun e => hne e.symm), heap_setBlock_at _ _ _ (by simpa [World.setCell] using hM)]
  · intro j hj
    by_cases hjA : j = A
    · subst hjA
      rw [heap_setCell_at hb, h1]
      congr 2
      apply Array.ext_getElem?
      intro i
      by_cases hi : 6 = i
      · subst hi
        have : 6 < cs.size := (Array.getElem?_eq_some_iff.1 h2).1
        rw [h2]; simp [this]
      · rw [Array.getElem?_setIfInBounds_ne hi, Array.getElem?_setIfInBounds_ne hi]
    · rw [Below.heap_setCell _ _ _ _ hjA, heap_setBlock_other _ _ _ _ hj, Below.heap_setCell _ _ _ _ hjA]

/-- The lock taken and given back. -/
theorem same_of {w : World} {A : Nat} {mp : Value} (hA : Free w A mp) :
    ∀ j : Nat, ((w.setCell ⟨A, 6, none⟩ (.int .i32 1)).setCell ⟨A, 6, none⟩ (.int .i32 0)).heap[j]? = w.heap[j]? := by
  obtain ⟨cs, t, h1, h2, _⟩ := hA
  intro j
  by_cases hjA : j = A
  · subst hjA
    rw [heap_setCell_at (heap_setCell_at h1 _), h1]
    congr 2
    apply Array.ext_getElem?
    intro i
    by_cases hi : 6 = i
    · subst hi
      have : 6 < cs.size := (Array.getElem?_eq_some_iff.1 h2).1
      rw [h2]; simp [this]
    · rw [Array.getElem?_setIfInBounds_ne hi, Array.getElem?_setIfInBounds_ne hi]
  · rw [Below.heap_setCell _ _ _ _ hjA, Below.heap_setCell _ _ _ _ hjA]

theorem Conns.setCell {w : World} {c0 n A : Nat} (hc : Conns w c0 n) (i : Nat) (v : Value) : Conns (w.setCell ⟨A, i, none⟩ v) c0 n := by
  intro j hj
  obtain ⟨ca, ta, h⟩ := hc j hj
  by_cases hA : c0 + j = A
  · rw [hA] at h ⊢; exact ⟨_, _, heap_setCell_at h v⟩
  · exact ⟨ca, ta, by rw [Below.heap_setCell _ _ _ _ hA]; exact h⟩

set_option maxHeartbeats 1600000 in
/-- 'a.take(conns[k])', the connection open. -/
theorem take_open (A M c0 n m k clock : Nat) (f : Nat → Bool) (w : World) (hA : Free w A (.map (some M))) (hne : A ≠ M) (hc : Conns w c0 n) (hk : k < m) (hm : m ≤ n) (hM : w.heap[M]? = some (.map (ents c0 f m) clock)) :
    Calls Yba.prog 6 #[.pointer (some ⟨A, 0, none⟩), key c0 k] w fun e w' => e = .returned (.tuple #[]) ∧ Turned w w' M (.map (ents c0 (fun i => if i = k then true else f i) m) clock) := by
  have hMs : M < w.heap.size := (Array.getElem?_eq_some_iff.1 hM).1
  have hT := turned_of hA hne hMs (.map (ents c0 (fun i => if i = k then true else f i) m) clock)
  have hM1 : (w.setCell ⟨A, 6, none⟩ (.int .i32 1)).heap[M]? = some (.map (ents c0 f m) clock) := by rw [Below.heap_setCell _ _ _ _ (by exact fun e => hne e.symm)]; exact hM
  have hlk := look_run c0 n m k M clock f _ (hc.setCell (A := A) 6 (.int .i32 1)) (by omega) hm hM1
  rw [show decide (k < m) = true by simpa using hk, Bool.true_and] at hlk
  have hup := update_old c0 n m k M clock true f _ (hc.setCell (A := A) 6 (.int .i32 1)) hk hm hM1
  have c0' := World.cell?_setCell_same w ⟨A, 6, none⟩ (.int .i32 1) hA.mu
  have hmu := hA.mu
  have hin := hA.inn
  have hfz := hA.fz 6
  obtain ⟨ky, hky⟩ : ∃ ky, ky = key c0 k := ⟨_, rfl⟩
  obtain ⟨o, ho⟩ : ∃ o, o = Obj.map (ents c0 (fun i => if i = k then true else f i) m) clock := ⟨_, rfl⟩
  rw [← hky] at hlk hup ⊢
  rw [← ho] at hup hT ⊢
  have cx : (setBlock (w.setCell ⟨A, 6, none⟩ (.int .i32 1)) M o).cell? ⟨A, 6, none⟩ = some (.int .i32 1) := by
    rw [World.cell?_of_block (w := w.setCell ⟨A, 6, none⟩ (.int .i32 1)) (heap_setBlock_other _ _ _ _ hne)]; exact c0'
  have fx : (setBlock (w.setCell ⟨A, 6, none⟩ (.int .i32 1)) M o).frozen? ⟨A, 6, none⟩ = false := by
    rw [World.frozen?_of_block (w := w.setCell ⟨A, 6, none⟩ (.int .i32 1)) (heap_setBlock_other _ _ _ _ hne)]; simp [hfz]
  clear hky ho hM hM1 hc
  go_enter_defers Yba.func6, Yba.ntmps6
  go_wp2_with (go_at_call 10; refine (lock_free Yba.muLib ⟨A, 6, none⟩ _ hmu hfz).mono ?_; rintro e w' ⟨rfl, rfl⟩)
  refine leaves_cons (f := 8) (args := #[.pointer (some ⟨A, 6, none⟩)]) (by simp) (by simp [go_sem]) ?_
  refine (unlock_deferred Yba.muLib ⟨A, 6, none⟩ .returning _ cx fx).mono ?_
  rintro e u' w'' ⟨rfl, rfl, rfl⟩
  exact ⟨_, results_none rfl _ _ _, rfl, hT⟩

/-- The world is as it was, block by block. -/
structure Same (w w' : World) : Prop where
  os : w'.os = w.os
  tape : w'.tape = w.tape
  output : w'.output = w.output
  size : w'.heap.size = w.heap.size
  block : ∀ j : Nat, w'.heap[j]? = w.heap[j]?

set_option maxHeartbeats 1600000 in
/-- 'a.take(conns[k])', the connection not open. -/
theorem take_shut (A M c0 n m k clock : Nat) (f : Nat → Bool) (w : World) (hA : Free w A (.map (some M))) (hne : A ≠ M) (hc : Conns w c0 n) (hk : m ≤ k) (hkn : k < n) (hM : w.heap[M]? = some (.map (ents c0 f m) clock)) :
    Calls Yba.prog 6 #[.pointer (some ⟨A, 0, none⟩), key c0 k] w fun e w' => e = .returned (.tuple #[]) ∧ Same w w' := by
  have hS := same_of hA
  have hM1 : (w.setCell ⟨A, 6, none⟩ (.int .i32 1)).heap[M]? = some (.map (ents c0 f m) clock) := by rw [Below.heap_setCell _ _ _ _ (by exact fun e => hne e.symm)]; exact hM
  have hlk := look_run c0 n m k M clock f _ (hc.setCell (A := A) 6 (.int .i32 1)) hkn (by omega) hM1
  rw [show decide (k < m) = false by simpa using hk, Bool.false_and] at hlk
  have c0' := World.cell?_setCell_same w ⟨A, 6, none⟩ (.int .i32 1) hA.mu
  have hmu := hA.mu
  have hin := hA.inn
  have hfz := hA.fz 6
  obtain ⟨ky, hky⟩ : ∃ ky, ky = key c0 k := ⟨_, rfl⟩
  rw [← hky] at hlk ⊢
  have HS := Hid.out (p := Hid _) hS
  clear hky hM hM1 hc hS
  go_enter_defers Yba.func6, Yba.ntmps6
  go_wp2_with (go_at_call 10; refine (lock_free Yba.muLib ⟨A, 6, none⟩ _ hmu hfz).mono ?_; rintro e w' ⟨rfl, rfl⟩)
  refine leaves_cons (f := 8) (args := #[.pointer (some ⟨A, 6, none⟩)]) (by simp) (by simp [go_sem]) ?_
  refine (unlock_deferred Yba.muLib ⟨A, 6, none⟩ .returning _ c0' (by simp [hfz])).mono ?_
  rintro e u' w'' ⟨rfl, rfl, rfl⟩
  exact ⟨_, results_none rfl _ _ _, rfl, ⟨rfl, rfl, rfl, by simp [World.setCell], HS⟩⟩

set_option maxHeartbeats 1600000 in
/-- 'a.take(conns[k])', the acceptor stopped. -/
theorem take_nil (A c0 k : Nat) (w : World) (hA : Free w A (.map none)) :
    Calls Yba.prog 6 #[.pointer (some ⟨A, 0, none⟩), key c0 k] w fun e w' => e = .returned (.tuple #[]) ∧ Same w w' := by
  have hS := same_of hA
  have hlk : ∀ w, (Instr.lookup 39 (.map none) (key c0 k) true).run Yba.prog w = .ok (.tuple #[.bool false, .bool false]) w := by
    intro w
    have hz : (zeroValue 4).run Yba.prog w = .ok (.bool false) w := Yba.zeroValue4 w
    have hf := find_run c0 (k + 1) 0 k (fun _ => false)
    simp only [Instr.lookup, Sem.run_bind, run_underlying Yba.underlying39, Result.andThen_ok, Sem.run_pure, check_run]
    have : (Instr.findKey 57 (key c0 k) (#[] : Array MapEntry).toList).run Yba.prog w = .ok none w := by
      simp [Instr.findKey, run_underlying Yba.underlying57, Instr.findNow]
    rw [this]
    simp [hz]
  have c0' := World.cell?_setCell_same w ⟨A, 6, none⟩ (.int .i32 1) hA.mu
  have hmu := hA.mu
  have hin := hA.inn
  have hfz := hA.fz 6
  obtain ⟨ky, hky⟩ : ∃ ky, ky = key c0 k := ⟨_, rfl⟩
  rw [← hky] at hlk ⊢
  have HS := Hid.out (p := Hid _) hS
  clear hky hS
  go_enter_defers Yba.func6, Yba.ntmps6
  go_wp2_with (go_at_call 10; refine (lock_free Yba.muLib ⟨A, 6, none⟩ _ hmu hfz).mono ?_; rintro e w' ⟨rfl, rfl⟩)
  refine leaves_cons (f := 8) (args := #[.pointer (some ⟨A, 6, none⟩)]) (by simp) (by simp [go_sem]) ?_
  refine (unlock_deferred Yba.muLib ⟨A, 6, none⟩ .returning _ c0' (by simp [hfz])).mono ?_
  rintro e u' w'' ⟨rfl, rfl, rfl⟩
  exact ⟨_, results_none rfl _ _ _, rfl, ⟨rfl, rfl, rfl, by simp [World.setCell], HS⟩⟩
end Go.Proofs.Ybulkcuom
