import Derived.Test.YbulkcuomRows
import Derived.LaidEql
import Derived.MapKept
import Derived.ChangeMaps4
import Derived.Laws.IdiomRangeMap
import Derived.WalkKit
namespace Go.Proofs.Ybulkcuom
open Go.ChangeMaps (setBlock)

/-- The key that stands for connection i: an interface value that holds the pointer to block c0 + i. -/
def key (c0 i : Nat) : Value := .iface 28 (.pointer (some ⟨c0 + i, 0, none⟩))
/-- The entry of connection i. -/
def ent (c0 : Nat) (f : Nat → Bool) (i : Nat) : MapEntry := { key := key c0 i, val := .bool (f i), born := i }
/-- The entries of the first n connections, from j on. -/
def ents (c0 : Nat) (f : Nat → Bool) (n : Nat) : Array MapEntry := ((List.range n).map (ent c0 f)).toArray

/-- Each connection is a block of its own, plain cells. -/
def Conns (w : World) (c0 n : Nat) : Prop := ∀ i, i < n → ∃ ca ta, w.heap[c0 + i]? = some (.cells ca ta (0, 0))

theorem info28 : (Yba.prog.info? 28).map (fun i => i.comparable) = some true := by kernel_rfl
theorem info55 : (Yba.prog.info? 55).map (fun i => decide (i.size = 0)) = some false := by kernel_rfl

theorem parts28 : ∃ i, Yba.prog.info? 28 = some i ∧ i.comparable = true := by
  have h := info28
  cases hi : Yba.prog.info? 28 with
  | none => rw [hi] at h; cases h
  | some i => rw [hi] at h; exact ⟨i, rfl, Option.some.inj h⟩
theorem parts55 : ∃ i, Yba.prog.info? 55 = some i ∧ i.size ≠ 0 := by
  have h := info55
  cases hi : Yba.prog.info? 55 with
  | none => rw [hi] at h; cases h
  | some i => rw [hi] at h; exact ⟨i, rfl, of_decide_eq_false (Option.some.inj h)⟩

theorem equal_same (c0 i : Nat) (w : World) : (Op.equal 57 (key c0 i) (key c0 i)).run Yba.prog w = .ok true w := by
  obtain ⟨i1, h1, h2⟩ := parts28
  obtain ⟨j1, h3, _⟩ := parts55
  exact run_equalIn_iface_ptr_same w 9998 _ Yba.underlying57 Yba.underlying28 h1 h2 h3

theorem equal_other (c0 n i j : Nat) (w : World) (hc : Conns w c0 n) (hi : i < n) (hj : j < n) (hne : i ≠ j) : (Op.equal 57 (key c0 i) (key c0 j)).run Yba.prog w = .ok false w := by
  obtain ⟨i1, h1, h2⟩ := parts28
  obtain ⟨j1, h3, h4⟩ := parts55
  obtain ⟨ca, ta, ha⟩ := hc i hi
  obtain ⟨cb, tb, hb⟩ := hc j hj
  exact run_equalIn_iface_ptr_other w 9998 Yba.underlying57 Yba.underlying28 h1 h2 h3 h4 (a := ⟨c0 + i, 0, none⟩) (b := ⟨c0 + j, 0, none⟩) (fun e => hne (by have := congrArg Addr.block e; simpa using this)) ha hb

theorem asking (c0 n k : Nat) (f : Nat → Bool) (w : World) (hc : Conns w c0 n) (hk : k < n) : ∀ (m j : Nat), j + m ≤ n →
    (Instr.findAsking 57 (key c0 k) ((List.range' j m).map (ent c0 f)) j).run Yba.prog w = .ok (if j ≤ k ∧ k < j + m then some (k, .bool (f k)) else none) w := by
  intro m
  induction m with
  | zero => intro j _; rw [if_neg (by omega)]; simp [Instr.findAsking]
  | succ m ih =>
    intro j hj
    rw [List.range'_succ, List.map_cons, Instr.findAsking]
    by_cases hkj : k = j
    · subst hkj
      have : (Op.equal 57 (key c0 k) (ent c0 f k).key).run Yba.prog w = .ok true w := equal_same c0 k w
      simp only [Sem.run_bind, this, Result.andThen_ok, if_true, Sem.run_pure]
      rw [if_pos (by omega)]
      rfl
    · have : (Op.equal 57 (key c0 k) (ent c0 f j).key).run Yba.prog w = .ok false w := equal_other c0 n k j w hc hk (by omega) hkj
      simp only [Sem.run_bind, this, Result.andThen_ok, Bool.false_eq_true, if_false]
      rw [ih (j + 1) (by omega)]
      congr 1
      by_cases h : j ≤ k ∧ k < j + (m + 1)
      · rw [if_pos h, if_pos (by omega)]
      · rw [if_neg h, if_neg (by omega)]

theorem find_run (c0 n m k : Nat) (f : Nat → Bool) (w : World) (hc : Conns w c0 n) (hk : k < n) (hm : m ≤ n) :
    (Instr.findKey 57 (key c0 k) (ents c0 f m).toList).run Yba.prog w = .ok (if k < m then some (k, .bool (f k)) else none) w := by
  have ha := asking c0 n k f w hc hk m 0 (by omega)
  rw [← List.range_eq_range'] at ha
  simp only [Nat.zero_le, true_and, Nat.zero_add] at ha
  unfold Instr.findKey ents
  simp only [Sem.run_bind, run_underlying Yba.underlying57, Result.andThen_ok]
  cases m with
  | zero => simp [Instr.findNow]
  | succ m =>
    have hn : ∀ ms, Instr.findNow (.interface ms) (key c0 k) ((List.range (m + 1)).map (ent c0 f)) 0 = none := by
      intro ms
      rw [List.range_succ_eq_map, List.map_cons, Instr.findNow]
      rfl
    rw [hn]
    exact ha

theorem check_run (b : Bool) (c0 i : Nat) (w : World) : (Instr.checkKey b 10000 57 (key c0 i)).run Yba.prog w = .ok () w := by
  obtain ⟨i1, h1, h2⟩ := parts28
  have : ∀ d, (Instr.checkKey b (d + 2) 57 (key c0 i)).run Yba.prog w = .ok () w := by
    intro d
    simp [Instr.checkKey, key, run_underlying Yba.underlying57, run_underlying Yba.underlying28, typeInfo, h1, h2]
  exact this 9998

/-- 'v, ok := m[conns[k]]'. -/
theorem look_run (c0 n m k M clock : Nat) (f : Nat → Bool) (w : World) (hc : Conns w c0 n) (hk : k < n) (hm : m ≤ n) (hM : w.heap[M]? = some (.map (ents c0 f m) clock)) :
    (Instr.lookup 39 (.map (some M)) (key c0 k) true).run Yba.prog w = .ok (.tuple #[.bool (decide (k < m) && f k), .bool (decide (k < m))]) w := by
  have hz : (zeroValue 4).run Yba.prog w = .ok (.bool false) w := Yba.zeroValue4 w
  simp only [Instr.lookup, Sem.run_bind, run_underlying Yba.underlying39, Result.andThen_ok, MapKept.run_getObj_map hM, Sem.run_pure, check_run, find_run c0 n m k f w hc hk hm]
  by_cases h : k < m
  · simp [h]
  · simp [h, hz]

theorem same_bits (c0 i : Nat) : Instr.sameBits 10000 (key c0 i) (key c0 i) = true := by
  have : ∀ d, Instr.sameBits (d + 2) (key c0 i) (key c0 i) = true := fun d => by simp [Instr.sameBits, key]
  exact this 9998

theorem ents_get (c0 n i : Nat) (f : Nat → Bool) : (ents c0 f n)[i]? = if i < n then some (ent c0 f i) else none := by
  unfold ents
  by_cases h : i < n
  · simp [h]
  · simp [h]

theorem ents_modify (c0 n k : Nat) (b : Bool) (f : Nat → Bool) : (ents c0 f n).modify k (fun e => { e with key := key c0 k, val := .bool b }) = ents c0 (fun i => if i = k then b else f i) n := by
  apply Array.ext_getElem?
  intro i
  rw [Array.getElem?_modify, ents_get, ents_get]
  by_cases hi : i < n
  · by_cases hk : k = i
    · subst hk; simp [hi, ent]
    · rw [if_neg hk]
      simp [hi, ent, show ¬ i = k by omega]
  · by_cases hk : k = i <;> simp [hi, hk]

theorem ents_push (c0 n : Nat) (f : Nat → Bool) : (ents c0 f n).push (ent c0 f n) = ents c0 f (n + 1) := by
  unfold ents
  simp [List.range_succ]

/-- 'm[conns[k]] = b' at a connection that is there. -/
theorem update_old (c0 n m k M clock : Nat) (b : Bool) (f : Nat → Bool) (w : World) (hc : Conns w c0 n) (hk : k < m) (hm : m ≤ n) (hM : w.heap[M]? = some (.map (ents c0 f m) clock)) :
    (Instr.mapUpdate 39 (.map (some M)) (key c0 k) (.bool b)).run Yba.prog w = .ok () (setBlock w M (.map (ents c0 (fun i => if i = k then b else f i) m) clock)) := by
  have hst : (Instr.keyThatStays ((((ents c0 f m)[k]?).map (·.key)).getD (key c0 k)) (key c0 k)).run Yba.prog w = .ok (key c0 k) w := by
    rw [ents_get, if_pos hk]
    simp [Instr.keyThatStays, ent, same_bits]
  simp only [Instr.mapUpdate, Sem.run_bind, run_underlying Yba.underlying39, Result.andThen_ok, MapKept.run_getObj_map hM, check_run, find_run c0 n m k f w hc (by omega) hm, if_pos hk, hst, ents_modify, MapKept.run_setObj_map _ hM]
  rfl

/-- 'm[conns[m]] = b' at the next connection. -/
theorem update_new (c0 n m M : Nat) (b : Bool) (f : Nat → Bool) (w : World) (hc : Conns w c0 n) (hm : m < n) (hM : w.heap[M]? = some (.map (ents c0 f m) m)) (hb : f m = b) :
    (Instr.mapUpdate 39 (.map (some M)) (key c0 m) (.bool b)).run Yba.prog w = .ok () (setBlock w M (.map (ents c0 f (m + 1)) (m + 1))) := by
  have hp := ents_push c0 m f
  unfold ent at hp
  rw [hb] at hp
  simp only [Instr.mapUpdate, Sem.run_bind, run_underlying Yba.underlying39, Result.andThen_ok, MapKept.run_getObj_map hM, check_run, find_run c0 n m m f w hc hm (by omega), Nat.lt_irrefl, if_false, hp, MapKept.run_setObj_map _ hM]
  rfl
end Go.Proofs.Ybulkcuom
