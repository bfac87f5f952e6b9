import Derived.Test.YbulkcupoTwice
import Derived.OwnWalk
import Derived.Deep.QuietTactic
import Derived.BigQuiet
namespace Go.Proofs.Ybulkcupo
open Go.RowKit

/-- Is place i a this-variable's? -/
def thisOf (tl : Nat) (T : Nat → Bool) (i : Nat) : Bool := decide (i < tl) && T i

/-- What is known of a slice of strings that came in. -/
def Strs (w : World) (a : Option Addr) (n : Nat) (S : Nat → ByteArray) : Prop := ∀ i, i < n → ∃ b off, a = some ⟨b, off, none⟩ ∧ w.cell? ⟨b, off + i, none⟩ = some (.string (S i)) ∧ b < w.heap.size
/-- What is known of a slice of bools that came in. -/
def Bools (w : World) (a : Option Addr) (n : Nat) (T : Nat → Bool) : Prop := ∀ i, i < n → ∃ b off, a = some ⟨b, off, none⟩ ∧ w.cell? ⟨b, off + i, none⟩ = some (.bool (T i)) ∧ b < w.heap.size

theorem Strs.below {w w' : World} {a : Option Addr} {n : Nat} {S : Nat → ByteArray} (h : Strs w a n S) (hb : Below w.heap.size w w') : Strs w' a n S := fun i hi => by
  obtain ⟨b, off, e, hc, hlt⟩ := h i hi
  exact ⟨b, off, e, (hb.cell (p := ⟨b, off + i, none⟩) hlt).trans hc, Nat.lt_of_lt_of_le hlt hb.size⟩
theorem Bools.below {w w' : World} {a : Option Addr} {n : Nat} {S : Nat → Bool} (h : Bools w a n S) (hb : Below w.heap.size w w') : Bools w' a n S := fun i hi => by
  obtain ⟨b, off, e, hc, hlt⟩ := h i hi
  exact ⟨b, off, e, (hb.cell (p := ⟨b, off + i, none⟩) hlt).trans hc, Nat.lt_of_lt_of_le hlt hb.size⟩

set_option maxHeartbeats 800000 in
theorem this_any (ta : Option Addr) (tl tcap i : Nat) (T : Nat → Bool) (w : World) (_htl : tl ≤ 9223372036854775807) (_hi : i ≤ 100000) (hT : Bools w ta tl T) :
    Calls Yba.prog 5 #[.slice ta tl tcap, .int .i64 (i : Int)] w fun e w' => e = .returned (.bool (thisOf tl T i)) ∧ w = w' := by
  by_cases hlt : i < tl
  · obtain ⟨b, off, rfl, hc, _⟩ := hT i hlt
    have HV := Lib.hid (show thisOf tl T i = T i by simp [thisOf, hlt])
    obtain ⟨v, hv⟩ : ∃ v, v = T i := ⟨_, rfl⟩
    rw [← hv] at hc HV
    clear hT hv
    go_enter Yba.func5, Yba.ntmps5
    go_wp2
    go_ret
    exact ⟨by rw [HV.out]; rfl, rfl⟩
  · have HV := Lib.hid (show thisOf tl T i = false by simp [thisOf, hlt])
    clear hT
    go_enter Yba.func5, Yba.ntmps5
    go_wp2
    go_ret
    exact ⟨by rw [HV.out]; rfl, rfl⟩

/-- The cells of the first m names. -/
def ncells (V : Nat → ByteArray × Bool) : Nat → List Value
  | 0 => []
  | m + 1 => ncells V m ++ [.string (V m).1]
theorem ncells_length (V : Nat → ByteArray × Bool) (m : Nat) : (ncells V m).length = m := by
  induction m with
  | zero => rfl
  | succ m ih => simp [ncells, ih]
theorem ncells_get (V : Nat → ByteArray × Bool) (m i : Nat) (hi : i < m) : (ncells V m)[i]? = some (.string (V i).1) := by
  induction m with
  | zero => omega
  | succ m ih =>
    have hl := ncells_length V m
    rw [ncells]
    by_cases him : i < m
    · rw [List.getElem?_append_left (by omega)]; exact ih him
    · obtain rfl : i = m := by omega
      rw [List.getElem?_append_right (by omega), hl]; simp
theorem ncells_congr (V W : Nat → ByteArray × Bool) (m : Nat) (h : ∀ i, i < m → V i = W i) : ncells V m = ncells W m := by
  induction m with
  | zero => rfl
  | succ m ih => rw [ncells, ncells, ih (fun i hi => h i (by omega)), h m (by omega)]
theorem ncells_upd (V : Nat → ByteArray × Bool) (m : Nat) (x : ByteArray × Bool) : ncells (upd V m x) (m + 1) = ncells V m ++ [.string x.1] := by
  rw [ncells, ncells_congr (upd V m x) V m (fun i hi => by simp [upd, show ¬ i = m by omega])]
  simp [upd]

/-- Two owned rows of different element types lie in different blocks. -/
theorem own_apart {w : World} {B1 B2 s1 s2 n1 n2 : Nat} {e1 e2 : TypeId} {v1 v2 : Value} {x1 x2 : List Value} (h1 : w.ownsRow B1 e1 s1 v1 n1 x1) (h2 : w.ownsRow B2 e2 s2 v2 n2 x2) (hne : e1 ≠ e2) : v1.ownBlock = none ∨ v1.ownBlock ≠ v2.ownBlock := by
  rcases h1.2 with ⟨rfl, _⟩ | ⟨g1, c1, u1, rfl, _, hg1, _⟩
  · exact .inl rfl
  · right
    rcases h2.2 with ⟨rfl, _⟩ | ⟨g2, c2, u2, rfl, _, hg2, _⟩
    · simp [Value.ownBlock]
    · simp only [Value.ownBlock, ne_eq, Option.some.injEq]
      intro e
      subst e
      rw [hg1] at hg2
      simp at hg2
      exact hne hg2.2

theorem info9 : (Yba.prog.info? 9).map (fun i => (i.zero, i.size, i.bytes)) = some (some (.string ⟨#[]⟩), 1, 16) := by kernel_rfl

/-- What the law starts its parser with. -/
def start (I : Nat → ByteArray) (tl : Nat) (T : Nat → Bool) (i : Nat) : ByteArray × Bool := if thisOf tl T i = true then (⟨#[]⟩, true) else (I i, false)

/-- Both rows of the law behind k entries. -/
structure Rows2 (w0 w : World) (vv nv : Value) (m : Nat) (V : Nat → ByteArray × Bool) : Prop where
  below : Below w0.heap.size w0 w
  vars : w.ownsRow w0.heap.size 28 3 vv m (vcells V m)
  names : w.ownsRow w0.heap.size 9 1 nv m (ncells V m)

theorem Rows2.size {w0 w : World} {vv nv : Value} {m : Nat} {V : Nat → ByteArray × Bool} (h : Rows2 w0 w vv nv m V) : w0.heap.size ≤ w.heap.size := h.below.size


theorem Rows2.namesKept {w0 w w1 : World} {vv nv : Value} {m : Nat} {V : Nat → ByteArray × Bool} (h : Rows2 w0 w vv nv m V) (o : Obj) (g1 : (w.alloc o).grownBy w1 vv.ownBlock) : w1.ownsRow w0.heap.size 9 1 nv m (ncells V m) :=
  (h.names.alloc o).kept g1 (own_apart h.names h.vars (by decide))

theorem Rows2.next {w0 w w1 w2 : World} {vv nv v1 v2 : Value} {m : Nat} {V : Nat → ByteArray × Bool} (h : Rows2 w0 w vv nv m V) (x : ByteArray × Bool) (hx : V m = x) (o1 o2 : Obj)
    (h1 : w1.ownsRow w0.heap.size 28 3 v1 (m + 1) (vcells V m ++ vcell x)) (g1 : (w.alloc o1).grownBy w1 vv.ownBlock)
    (h2 : w2.ownsRow w0.heap.size 9 1 v2 (m + 1) (ncells V m ++ [.string x.1])) (g2 : (w1.alloc o2).grownBy w2 nv.ownBlock) : Rows2 w0 w2 v1 v2 (m + 1) V := by
  have hn := h.namesKept o1 g1
  have hs := h.size
  have hb1 : Below w0.heap.size w0 w1 := (h.below.alloc hs o1).grown g1 (by simp; omega) (fun k hk => (h.vars.lt k hk).1)
  have hb2 : Below w0.heap.size w0 w2 := (hb1.alloc hb1.size o2).grown g2 (by have := hb1.size; simp; omega) (fun k hk => (hn.lt k hk).1)
  refine ⟨hb2, ?_, ?_⟩
  · rw [vcells, hx]; exact (h1.alloc o2).kept g2 (own_apart h1 hn (by decide))
  · rw [ncells, hx]; exact h2

theorem new1_cells (w : World) (u : Value) (t : TypeId) (j : Nat) (v : Value) (h : [u][j]? = some v) : (w.alloc (.cells #[u] t)).cell? ((⟨w.heap.size, 0, none⟩ : Addr).add j) = some v := by
  match j, h with
  | 0, h => simp at h; subst h; simp [Addr.add]
theorem one_string (s : ByteArray) : ∀ u ∈ [Value.string s], u.oneCell' = true := by
  intro u hu
  simp only [List.mem_cons, List.mem_nil_iff, or_false] at hu
  subst hu; rfl

theorem own_shape {B n size : Nat} {e : TypeId} {w : World} {v : Value} {xs : List Value} (h : w.ownsRow B e size v n xs) : ∃ a cap, v = .slice a n cap := by
  rcases h.2 with ⟨rfl, rfl⟩ | ⟨g, cap, cur, rfl, -, -, -, -, -, -⟩
  · exact ⟨none, 0, rfl⟩
  · exact ⟨_, cap, rfl⟩

/-- The first place is one. -/
theorem first_unique {V : Nat → ByteArray × Bool} {nm : ByteArray} {m : Nat} {r r' : Int} (h : IsFirst V nm m r) (h' : IsFirst V nm m r') : r = r' := by
  rcases h with ⟨i, hi, rfl, e, no⟩ | ⟨rfl, no⟩
  · rcases h' with ⟨j, hj, rfl, e', no'⟩ | ⟨rfl, no'⟩
    · by_cases h1 : i < j
      · exact absurd e (no' i h1)
      · by_cases h2 : j < i
        · exact absurd e' (no j h2)
        · omega
    · exact absurd e (no' i hi)
  · rcases h' with ⟨j, hj, rfl, e', no'⟩ | ⟨rfl, no'⟩
    · exact absurd e' (no j hj)
    · rfl

theorem first_ex (V : Nat → ByteArray × Bool) (nm : ByteArray) (m : Nat) : ∃ r, IsFirst V nm m r := by
  induction m with
  | zero => exact ⟨-1, .inr ⟨rfl, fun j hj => by omega⟩⟩
  | succ m ih =>
    obtain ⟨r, ⟨i, hi, rfl, e, no⟩ | ⟨rfl, no⟩⟩ := ih
    · exact ⟨_, .inl ⟨i, by omega, rfl, e, no⟩⟩
    · by_cases he : (V m).1.toList = nm.toList
      · exact ⟨_, .inl ⟨m, by omega, rfl, he, no⟩⟩
      · refine ⟨-1, .inr ⟨rfl, fun j hj => ?_⟩⟩
        by_cases hjm : j = m
        · subst hjm; exact he
        · exact no j (by omega)

/-- The cells of the law's parser but its variables. -/
def pcells (sv : Value) : Array Value := #[.string ⟨#[65, 46, 114, 40, 63, 120, 41]⟩, .int .i64 2, .bool true, sv, .slice none 0 0, .bool false, .pointer none]

theorem pcells_set (sv sv' : Value) : (pcells sv).setIfInBounds 3 sv' = pcells sv' := rfl

/-- The law's state behind some calls: the parser at PB, the names beside it. -/
structure Mid (w0 w : World) (PB n0 : Nat) (V0 : Nat → ByteArray × Bool) (nv sv : Value) (m : Nat) (V : Nat → ByteArray × Bool) : Prop where
  below : Below w0.heap.size w0 w
  parser : Parser w w0.heap.size PB (pcells sv) sv m V
  names : w.ownsRow w0.heap.size 9 1 nv m (ncells V m)
  le : n0 ≤ m
  old : ∀ i, i < n0 → V i = V0 i
  new : ∀ i, n0 ≤ i → i < m → (V i).2 = false

theorem Mid.start {w0 w : World} {vv nv : Value} {n0 : Nat} {V0 : Nat → ByteArray × Bool} (h : Rows2 w0 w vv nv n0 V0) : Mid w0 (w.alloc (.cells (pcells vv) 33)) w.heap.size n0 V0 nv vv n0 V0 :=
  ⟨h.below.alloc h.size _, ⟨heap_alloc_new w _, rfl, rfl, h.vars.alloc _, h.size⟩, h.names.alloc _, Nat.le_refl _, fun _ _ => rfl, fun i h1 h2 => by omega⟩

/-- The names' row is neither the parser nor its row. -/
theorem Mid.keptNames {w0 w w' : World} {PB m k : Nat} {V : Nat → ByteArray × Bool} {sv nv' : Value} {xs : List Value} (h : Parser w w0.heap.size PB (pcells sv) sv m V) (hn : w.ownsRow w0.heap.size 9 1 nv' k xs) (hk : Kept w w' PB sv) : w'.ownsRow w0.heap.size 9 1 nv' k xs := by
  refine ⟨hn.1, ?_⟩
  have hap := own_apart hn h.own (by decide)
  rcases hn.2 with h0 | ⟨g, cap, cur, rfl, hb, hg, rest⟩
  · exact .inl h0
  · refine .inr ⟨g, cap, cur, rfl, hb, ?_, rest⟩
    rw [hk.block g (Array.getElem?_eq_some_iff.1 hg).1 ?_ ?_]
    · exact hg
    · intro e
      subst e
      rw [h.at_] at hg
      simp at hg
    · rcases hap with h1 | h1
      · simp [Value.ownBlock] at h1
      · exact h1

/-- A call that finds its name. -/
theorem Mid.found {w0 w w' : World} {PB n0 m : Nat} {V0 V : Nat → ByteArray × Bool} {nv sv : Value} (h : Mid w0 w PB n0 V0 nv sv m V) (hk : Kept w w' PB sv) (hp : Parser w' w0.heap.size PB (pcells sv) sv m V) : Mid w0 w' PB n0 V0 nv sv m V :=
  ⟨hk.below h.below h.below.size h.parser.base h.parser.own, hp, Mid.keptNames h.parser h.names hk, h.le, h.old, h.new⟩

/-- A call that adds its name, the names' row grown ahead of it. -/
theorem Mid.added {w0 w w1 w' : World} {PB n0 m : Nat} {V0 V : Nat → ByteArray × Bool} {nv nv' sv sv' : Value} {nm : ByteArray} (h : Mid w0 w PB n0 V0 nv sv m V) (hb : Below w0.heap.size w0 w1) (hp1 : Parser w1 w0.heap.size PB (pcells sv) sv m V)
    (hn1 : w1.ownsRow w0.heap.size 9 1 nv' (m + 1) (ncells V m ++ [.string nm])) (hk : Kept w1 w' PB sv) (hp : Parser w' w0.heap.size PB ((pcells sv).setIfInBounds 3 sv') sv' (m + 1) (upd V m (nm, false))) : Mid w0 w' PB n0 V0 nv' sv' (m + 1) (upd V m (nm, false)) := by
  refine ⟨hk.below hb hb.size hp1.base hp1.own, hp, ?_, by have := h.le; omega, fun i hi => ?_, fun i h1 h2 => ?_⟩
  · rw [ncells_upd]; exact Mid.keptNames hp1 hn1 hk
  · rw [← h.old i hi]; have := h.le; simp [upd, show ¬ i = m by omega]
  · by_cases him : i = m
    · simp [upd, him]
    · have := h.new i h1 (by omega); simpa [upd, him] using this

theorem Parser.namesGrown {w w1 : World} {B PB m k : Nat} {cs : Array Value} {sv nv : Value} {V : Nat → ByteArray × Bool} {xs : List Value} (h : Parser w B PB cs sv m V) (hn : w.ownsRow B 9 1 nv k xs) (o : Obj) (g1 : (w.alloc o).grownBy w1 nv.ownBlock) : Parser w1 B PB cs sv m V := by
  have hlt : PB < w.heap.size := (Array.getElem?_eq_some_iff.1 h.at_).1
  refine ⟨?_, h.size, h.vars, (h.own.alloc o).kept g1 (own_apart h.own hn (by decide)), h.base⟩
  rw [g1.block PB (by simp; omega) ?_, Below.heap_alloc _ _ _ hlt]
  · exact h.at_
  · rcases hn.2 with ⟨rfl, _⟩ | ⟨g, cap, cur, rfl, _, hg, _⟩
    · simp [Value.ownBlock]
    · simp only [Value.ownBlock, ne_eq, Option.some.injEq]
      intro e
      subst e
      rw [h.at_] at hg
      simp at hg

/-- 'p.variable(nm)' where the model adds nm: the names' row has been grown. -/
theorem Mid.callNew {w0 w w1 : World} {PB n0 m : Nat} {V0 V : Nat → ByteArray × Bool} {nv nv' sv : Value} {nm : ByteArray} (h : Mid w0 w PB n0 V0 nv sv m V) (o : Obj) (hn1 : w1.ownsRow w0.heap.size 9 1 nv' (m + 1) (ncells V m ++ [.string nm])) (g1 : (w.alloc o).grownBy w1 nv.ownBlock) (hm : m ≤ 90000)
    (hno : nm.toList = [] ∨ IsFirst V nm m (-1)) :
    Calls Yba.prog 6 #[.pointer (some ⟨PB, 0, none⟩), .string nm] w1 fun e w' => e = .returned (.int .i64 (m : Int)) ∧ ∃ sv', Mid w0 w' PB n0 V0 nv' sv' (m + 1) (upd V m (nm, false)) := by
  have hs := h.below.size
  have hb1 : Below w0.heap.size w0 w1 := (h.below.alloc hs o).grown g1 (by simp; omega) (fun k hk => (h.names.lt k hk).1)
  have hp1 := h.parser.namesGrown h.names o g1
  refine (var_any nm V hm w1 hp1).mono ?_
  rintro e w' ⟨r, rfl, r0, hf, hk, ⟨hne, h0, _, _⟩ | ⟨_, rfl, sv', hp⟩⟩
  · rcases hno with hno | hno
    · exact absurd hno hne
    · have := first_unique hf hno; omega
  · exact ⟨rfl, sv', h.added hb1 hp1 hn1 hk hp⟩

/-- 'p.variable(nm)' where the model finds nm. -/
theorem Mid.callOld {w0 w : World} {PB n0 m i : Nat} {V0 V : Nat → ByteArray × Bool} {nv sv : Value} {nm : ByteArray} (h : Mid w0 w PB n0 V0 nv sv m V) (hm : m ≤ 90000) (hne : nm.toList ≠ []) (hf : IsFirst V nm m (i : Int)) :
    Calls Yba.prog 6 #[.pointer (some ⟨PB, 0, none⟩), .string nm] w fun e w' => e = .returned (.int .i64 (i : Int)) ∧ Mid w0 w' PB n0 V0 nv sv m V := by
  refine (var_any nm V hm w h.parser).mono ?_
  rintro e w' ⟨r, rfl, r0, hf', hk, ⟨_, _, rfl, hp⟩ | ⟨hno, _⟩⟩
  · rw [first_unique hf' hf]; exact ⟨rfl, h.found hk hp⟩
  · rcases hno with hno | hno
    · exact absurd hno hne
    · have := first_unique hf' hf; omega

theorem names_cell {w : World} {B m j g cap : Nat} {V : Nat → ByteArray × Bool} (h : w.ownsRow B 9 1 (.slice (some ⟨g, 0, none⟩) m cap) m (ncells V m)) (hj : j < m) : w.cell? ⟨g, j, none⟩ = some (.string (V j).1) := by
  rw [h.cellAt j (by omega)]; exact ncells_get V m j hj

theorem Mid.grown {w0 w w' : World} {PB n0 m : Nat} {V0 V : Nat → ByteArray × Bool} {nv sv : Value} (h : Mid w0 w PB n0 V0 nv sv m V) (hb : Below w.heap.size w w') : Mid w0 w' PB n0 V0 nv sv m V :=
  ⟨h.below.trans (hb.mono h.below.size), h.parser.below hb, own_below h.names hb, h.le, h.old, h.new⟩

theorem Mid.pcell {w0 w : World} {PB n0 m : Nat} {V0 V : Nat → ByteArray × Bool} {nv sv : Value} (h : Mid w0 w PB n0 V0 nv sv m V) (i : Nat) : w.cell? ⟨PB, i, none⟩ = (pcells sv)[i]? :=
  cell_of_row w PB i (pcells sv) 33 (0, 0) h.parser.at_

theorem start_this (I : Nat → ByteArray) (tl : Nat) (T : Nat → Bool) (i : Nat) : (start I tl T i).2 = thisOf tl T i := by
  unfold start
  cases h : thisOf tl T i <;> simp

theorem this_same (ta : Option Addr) (tl tcap i : Nat) (T : Nat → Bool) (b : Bool) (w : World) (htl : tl ≤ 9223372036854775807) (hi : i ≤ 100000) (hT : Bools w ta tl T) (hb : b = thisOf tl T i) :
    Calls Yba.prog 5 #[.slice ta tl tcap, .int .i64 (i : Int)] w fun e w' => e = .returned (.bool b) ∧ w' = w :=
  (this_any ta tl tcap i T w htl hi hT).mono fun _ _ ⟨h1, h2⟩ => ⟨by rw [hb]; exact h1, h2.symm⟩
end Go.Proofs.Ybulkcupo
