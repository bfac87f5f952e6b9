import Derived.Test.YbulkcupoIdx
import Derived.Deep.RegionLaw
import Derived.Deep.RegionLawGrows
namespace Go.Proofs.Ybulkcupo
open Go.RowKit

/-- append onto a row that the call owns, as one step of a region that draws its order. -/
theorem step_append_owned {P : Program} {ops : Array Oper} {o : Oper} {a : Act} {w : World} {K : Act → World → Prop} {Q : Exit → Act → World → Prop} {E : Prop}
    (hg : o.guard = none) (s x : Operand) (t : TypeId) (hop : o.op = Op.call { callee := Callee.builtin Builtin.append, args := #[s, x], argTypes := #[t, t] })
    (base : Nat) (e : TypeId) (i : TypeInfo) (z : Value) (size bytes : Nat) (h1 : P.underlying t = some (.slice e)) (h2 : P.info? e = some i) (h3 : i.zero = some z) (h4 : i.size = size) (h5 : i.bytes = bytes) (h6 : z.cells.size = size) (h7 : 0 < size)
    (v : Value) (n : Nat) (xs : List Value) (hs : a.eval s = v) (hown : w.ownsRow base e size v n xs)
    (ad : Addr) (m c : Nat) (news : List Value) (hx : a.eval x = .slice (some ad) m c) (hn : news.length = m * size) (hc : ∀ j u, news[j]? = some u → w.cell? (ad.add j) = some u) (h1c : ∀ u ∈ news, u.oneCell' = true)
    (b1 : n + m ≤ maxLen) (b2 : (n + m) * bytes ≤ 140737488355328) (hb : base ≤ w.heap.size)
    (hK : ∀ v' w', w'.ownsRow base e size v' (n + m) (xs ++ news) → w.grownBy w' v.ownBlock → K (a.put o.dst v') w') :
    if Region.wanted o (yielded ops a.tmps) = true then Oper.wp P o a w K Q else E := by
  have hw : Region.wanted o (yielded ops a.tmps) = true := by simp [Region.wanted, hg]
  rw [if_pos hw]
  obtain ⟨v', w', hrun, r1, r2, _⟩ := run_append_own (P := P) w base t o.type e i z size bytes h1 h2 h3 h4 h5 h6 h7 v n xs hown ad m c news hn hc h1c b1 b2 hb
  unfold Oper.wp
  simp [execOp, hop, resolve, invoke, builtin, hs, hx, hrun, Result.andThen]
  exact hK v' w' r1 r2

/-- The three cells of a variable. -/
def vcell (x : ByteArray × Bool) : List Value := [.string x.1, .slice none 0 0, .bool x.2]
/-- The cells of the first m variables. -/
def vcells (V : Nat → ByteArray × Bool) : Nat → List Value
  | 0 => []
  | m + 1 => vcells V m ++ vcell (V m)

theorem vcells_length (V : Nat → ByteArray × Bool) (m : Nat) : (vcells V m).length = m * 3 := by
  induction m with
  | zero => rfl
  | succ m ih => simp [vcells, ih, vcell]; omega

theorem vcells_get (V : Nat → ByteArray × Bool) (m i r : Nat) (hi : i < m) (hr : r < 3) : (vcells V m)[i * 3 + r]? = (vcell (V i))[r]? := by
  induction m with
  | zero => omega
  | succ m ih =>
    have hl := vcells_length V m
    rw [vcells]
    by_cases him : i < m
    · rw [List.getElem?_append_left (by omega)]; exact ih him
    · obtain rfl : i = m := by omega
      rw [List.getElem?_append_right (by omega), hl]
      congr 1; omega

theorem own_cell {w : World} {B g m cap : Nat} {V : Nat → ByteArray × Bool} (h : w.ownsRow B 28 3 (.slice (some ⟨g, 0, none⟩) m cap) m (vcells V m)) (i r : Nat) (hi : i < m) (hr : r < 3) :
    w.cell? ⟨g, i * 3 + r, none⟩ = (vcell (V i))[r]? := by
  rw [h.cellAt (i * 3 + r) (by omega)]; exact vcells_get V m i r hi hr

/-- What is owned stays owned while every old block stands. -/
theorem own_below {w w' : World} {B m size : Nat} {e : TypeId} {sv : Value} {xs : List Value} (h : w.ownsRow B e size sv m xs) (hb : Below w.heap.size w w') : w'.ownsRow B e size sv m xs :=
  h.kept (row := none) ⟨hb.os, hb.tape, hb.output, hb.size, fun k hk _ => hb.block k hk⟩ (by cases hv : sv.ownBlock <;> simp)

theorem idx_own {B m c : Nat} (sv : Value) (nm : ByteArray) (V : Nat → ByteArray × Bool) (hm : m ≤ 100000) (w : World) (hcap : w.cell? ⟨c, 0, none⟩ = some (.string nm)) (hown : w.ownsRow B 28 3 sv m (vcells V m)) :
    Calls Yba.prog 7 #[sv, .func (.func 8) #[] #[.pointer (some ⟨c, 0, none⟩)]] w fun e w' => ∃ r, e = .returned (.int .i64 r) ∧ IsFirst V nm m r ∧ Below w.heap.size w w' := by
  have hcb := World.block_lt_of_cell? w _ hcap
  rcases hown.2 with ⟨rfl, rfl⟩ | ⟨g, cap, cur, rfl, _, hg, _⟩
  · exact idx_none 0 c nm V w
  · exact idx_any g cap m c nm V hm w hcap hcb (fun _ => (Array.getElem?_eq_some_iff.1 hg).1) (fun i hi => own_cell hown i 0 hi (by omega)) (fun i hi => own_cell hown i 1 hi (by omega)) (fun i hi => own_cell hown i 2 hi (by omega))

/-- The parser at block PB: its cells, its variables. -/
structure Parser (w : World) (B PB : Nat) (cs : Array Value) (sv : Value) (m : Nat) (V : Nat → ByteArray × Bool) : Prop where
  at_ : w.heap[PB]? = some (.cells cs 33 (0, 0))
  size : cs.size = 7
  vars : cs[3]? = some sv
  own : w.ownsRow B 28 3 sv m (vcells V m)
  base : B ≤ PB

theorem box_cell (w : World) (v : Value) (t : TypeId) : (w.alloc (.cells #[v] t)).cell? ⟨w.heap.size, 0, none⟩ = some v := by
  rw [cell_of_row _ w.heap.size 0 #[v] t (0, 0) (heap_alloc_new w _)]; rfl

theorem info28 : (Yba.prog.info? 28).map (fun i => (i.zero, i.size, i.bytes)) = some (some (.agg #[.string ⟨#[]⟩, .slice none 0 0, .bool false]), 3, 48) := by kernel_rfl

/-- V with x at place m. -/
def upd (V : Nat → ByteArray × Bool) (m : Nat) (x : ByteArray × Bool) (i : Nat) : ByteArray × Bool := if i = m then x else V i

theorem vcells_congr (V W : Nat → ByteArray × Bool) (m : Nat) (h : ∀ i, i < m → V i = W i) : vcells V m = vcells W m := by
  induction m with
  | zero => rfl
  | succ m ih => rw [vcells, vcells, ih (fun i hi => h i (by omega)), h m (by omega)]

theorem vcells_upd (V : Nat → ByteArray × Bool) (m : Nat) (x : ByteArray × Bool) : vcells (upd V m x) (m + 1) = vcells V m ++ vcell x := by
  rw [vcells, vcells_congr (upd V m x) V m (fun i hi => by simp [upd, show ¬ i = m by omega])]
  simp [upd]

/-- All that was there but the parser and its row stands. -/
structure Kept (w w' : World) (PB : Nat) (sv : Value) : Prop where
  os : w'.os = w.os
  tape : w'.tape = w.tape
  output : w'.output = w.output
  size : w.heap.size ≤ w'.heap.size
  block : ∀ j, j < w.heap.size → j ≠ PB → some j ≠ sv.ownBlock → w'.heap[j]? = w.heap[j]?

theorem Kept.of_below {w w' : World} {PB : Nat} {sv : Value} (h : Below w.heap.size w w') : Kept w w' PB sv := ⟨h.os, h.tape, h.output, h.size, fun j hj _ _ => h.block j hj⟩

theorem Parser.ne {w : World} {B PB m : Nat} {cs : Array Value} {sv : Value} {V : Nat → ByteArray × Bool} (h : Parser w B PB cs sv m V) : some PB ≠ sv.ownBlock := by
  rcases h.own.2 with ⟨rfl, _⟩ | ⟨g, cap, cur, rfl, _, hg, _⟩
  · simp [Value.ownBlock]
  · simp only [Value.ownBlock, ne_eq, Option.some.injEq]
    intro e
    subst e
    rw [h.at_] at hg
    simp at hg

theorem Parser.below {w w' : World} {B PB m : Nat} {cs : Array Value} {sv : Value} {V : Nat → ByteArray × Bool} (h : Parser w B PB cs sv m V) (hb : Below w.heap.size w w') : Parser w' B PB cs sv m V :=
  ⟨(hb.block PB (Array.getElem?_eq_some_iff.1 h.at_).1).trans h.at_, h.size, h.vars, own_below h.own hb, h.base⟩

theorem own_form {B n size : Nat} {e : TypeId} {w : World} {v : Value} {xs : List Value} (h : w.ownsRow B e size v n xs) (hp : 0 < n) : ∃ g cap, v = .slice (some ⟨g, 0, none⟩) n cap := by
  rcases h.2 with ⟨-, h0⟩ | ⟨g, cap, cur, rfl, -, -, -, -, -, -⟩
  · omega
  · exact ⟨g, cap, rfl⟩

theorem heap_setCell_at {w : World} {A i : Nat} {cs : Array Value} {t : TypeId} {fr : Nat × Nat} (h : w.heap[A]? = some (.cells cs t fr)) (v : Value) :
    (w.setCell ⟨A, i, none⟩ v).heap[A]? = some (.cells (cs.setIfInBounds i v) t fr) := by
  simp [World.setCell, Array.getElem?_modify, h]

/-- The parser behind 'p.vars = append(p.vars, variable{name: nm})'. -/
theorem Parser.added {w w2 w' : World} {B PB m : Nat} {cs : Array Value} {sv v' : Value} {V : Nat → ByteArray × Bool} {nm : ByteArray} (h : Parser w B PB cs sv m V) (hB : Below w.heap.size w w2)
    (hown : w'.ownsRow B 28 3 v' (m + 1) (vcells V m ++ vcell (nm, false))) (hg : w2.grownBy w' sv.ownBlock) :
    Parser (w'.setCell ⟨PB, 3, none⟩ v') B PB (cs.setIfInBounds 3 v') v' (m + 1) (upd V m (nm, false)) ∧ Kept w (w'.setCell ⟨PB, 3, none⟩ v') PB sv := by
  have hlt : PB < w.heap.size := (Array.getElem?_eq_some_iff.1 h.at_).1
  have hs2 := hB.size
  have hat : w'.heap[PB]? = some (.cells cs 33 (0, 0)) := by
    rw [hg.block PB (by omega) h.ne, hB.block PB hlt]; exact h.at_
  have hne : some PB ≠ v'.ownBlock := by
    rcases hown.2 with ⟨rfl, _⟩ | ⟨g, cap, cur, rfl, _, hgg, _⟩
    · simp [Value.ownBlock]
    · simp only [Value.ownBlock, ne_eq, Option.some.injEq]
      intro e
      subst e
      rw [hat] at hgg
      simp at hgg
  refine ⟨⟨heap_setCell_at hat v', by simpa using h.size, by rw [Array.getElem?_setIfInBounds_self_of_lt (by rw [h.size]; omega)], ?_, h.base⟩, ?_⟩
  · rw [vcells_upd]
    refine ⟨hown.1, ?_⟩
    rcases hown.2 with h0 | ⟨g, cap, cur, rfl, hb, hgg, rest⟩
    · exact .inl h0
    · refine .inr ⟨g, cap, cur, rfl, hb, ?_, rest⟩
      rw [Below.heap_setCell _ _ _ _ (fun e => hne (by simp only [Value.ownBlock]; rw [e]))]
      exact hgg
  · refine ⟨hg.os.trans hB.os, hg.tape.trans hB.tape, hg.output.trans hB.output, ?_, fun j hj hjP hjs => ?_⟩
    · have := hg.size; simp [World.setCell]; omega
    · rw [Below.heap_setCell _ _ _ _ hjP, hg.block j (by omega) hjs, hB.block j hj]

theorem Parser.after {w w2 w' : World} {B PB m : Nat} {cs : Array Value} {sv : Value} {V : Nat → ByteArray × Bool} (h : Parser w B PB cs sv m V) (hB : Below w.heap.size w w2) (hg : w2.grownBy w' sv.ownBlock) :
    w'.cell? ⟨PB, 3, none⟩ = some sv ∧ w'.frozen? ⟨PB, 3, none⟩ = false := by
  have hlt : PB < w.heap.size := (Array.getElem?_eq_some_iff.1 h.at_).1
  have hs2 := hB.size
  have hat : w'.heap[PB]? = some (.cells cs 33 (0, 0)) := by
    rw [hg.block PB (by omega) h.ne, hB.block PB hlt]; exact h.at_
  exact ⟨by rw [cell_of_row w' PB 3 cs 33 (0, 0) hat]; exact h.vars, by simp [World.frozen?, hat]⟩

theorem new3_cells (w : World) (x : ByteArray × Bool) (j : Nat) (u : Value) (h : (vcell x)[j]? = some u) : (w.alloc (.cells #[.string x.1, .slice none 0 0, .bool x.2] 28)).cell? ((⟨w.heap.size, 0, none⟩ : Addr).add j) = some u := by
  have hadd : (⟨w.heap.size, 0, none⟩ : Addr).add j = ⟨w.heap.size, j, none⟩ := by unfold Addr.add; split <;> simp_all
  rw [hadd, cell_of_row _ w.heap.size j _ 28 (0, 0) (heap_alloc_new w _)]
  simpa [vcell] using h
theorem one_cells (x : ByteArray × Bool) : ∀ u ∈ vcell x, u.oneCell' = true := by
  intro u hu
  simp only [vcell, List.mem_cons, List.mem_nil_iff, or_false] at hu
  rcases hu with rfl | rfl | rfl <;> rfl

/-- What a call of variable comes to. -/
def VarPost (w w' : World) (B PB m : Nat) (cs : Array Value) (sv : Value) (V : Nat → ByteArray × Bool) (nm : ByteArray) (r : Int) : Prop :=
  ∃ r0, IsFirst V nm m r0 ∧ Kept w w' PB sv ∧
    ((nm.toList ≠ [] ∧ 0 ≤ r0 ∧ r = r0 ∧ Parser w' B PB cs sv m V) ∨
     ((nm.toList = [] ∨ r0 < 0) ∧ r = (m : Int) ∧ ∃ sv', Parser w' B PB (cs.setIfInBounds 3 sv') sv' (m + 1) (upd V m (nm, false))))

set_option maxHeartbeats 1600000 in
theorem var_any {B PB m : Nat} {cs : Array Value} {sv : Value} (nm : ByteArray) (V : Nat → ByteArray × Bool) (hm : m ≤ 90000) (w : World) (hp : Parser w B PB cs sv m V) :
    Calls Yba.prog 6 #[.pointer (some ⟨PB, 0, none⟩), .string nm] w fun e w' => ∃ r, e = .returned (.int .i64 r) ∧ VarPost w w' B PB m cs sv V nm r := by
  obtain ⟨i0, hi, hz0, hz1, hz2⟩ := info_parts info28
  have hcell : w.cell? ⟨PB, 3, none⟩ = some sv := by rw [cell_of_row w PB 3 cs 33 (0, 0) hp.at_]; exact hp.vars
  have hPlt : PB < w.heap.size := (Array.getElem?_eq_some_iff.1 hp.at_).1
  have HI := Lib.hid (idx_own (c := w.heap.size) sv nm V (by omega) (w.alloc (.cells #[.string nm] 9)) (by simp [go_sem]) (hp.own.alloc _))
  go_enter Yba.func6, Yba.ntmps6
  go_wp2_with (go_at_call 7; refine (HI.out).mono ?_; rintro e w1 ⟨r, rfl, hfst, hnx⟩; refine Hid.out ?_)
  refine Lib.hid ?_
  have hbox : w1.cell? ⟨w.heap.size, 0, none⟩ = some (.string nm) := (hnx.cell (p := ⟨w.heap.size, 0, none⟩) (by simp)).trans (box_cell w (.string nm) 9)
  have hB1 : Below w.heap.size w w1 := ((Below.refl _ _).alloc (Nat.le_refl _) _).trans (hnx.mono (by simp))
  have hsz1 : w.heap.size < w1.heap.size := by have := hnx.size; simp at this; omega
  have hvar : w1.cell? ⟨PB, 3, none⟩ = some sv := (hB1.cell (p := ⟨PB, 3, none⟩) hPlt).trans hcell
  have hPfz : w1.frozen? ⟨PB, 3, none⟩ = false := by rw [hB1.frozen (p := ⟨PB, 3, none⟩) hPlt]; simp [World.frozen?, hp.at_]
  have HX := Lib.hid hnx
  have HB1 := Lib.hid hB1
  have HF := Lib.hid hfst
  clear hnx hB1 hfst hcell HI
  have HO1 := Lib.hid (own_below hp.own HB1.out)
  have HP := Lib.hid hp
  clear hp
  by_cases hyes : nm.toList.isEmpty = false ∧ 0 ≤ r
  · obtain ⟨hy1, hy2⟩ := hyes
    go_wp2
    go_ret
    exact ⟨r, rfl, r, HF.out, Kept.of_below HB1.out, .inl ⟨by simpa using hy1, hy2, rfl, HP.out.below HB1.out⟩⟩
  · have HNO := Lib.hid (show nm.toList = [] ∨ r < 0 by
      by_cases h1 : nm.toList.isEmpty = false
      · exact .inr (Int.not_le.1 fun h2 => hyes ⟨h1, h2⟩)
      · exact .inl (by simpa using h1))
    clear hyes
    have hBP : B ≤ PB := HP.out.base
    have hPlt1 : PB < w1.heap.size := by omega
    by_cases hy1 : nm.toList.isEmpty = false
    · have hy2 : r < 0 := by rcases HNO.out with h | h; (rw [h] at hy1; cases hy1); exact h
      go_wp2_with fail
      go_region_law (refine step_append_owned rfl (.tmp 23) (.tmp 26) 24 rfl B 28 i0 (.agg #[.string ⟨#[]⟩, .slice none 0 0, .bool false]) 3 48 Yba.underlying24 hi hz0 hz1 hz2 rfl (by decide) sv m (vcells V m) (by simp [Act.eval]) (by exact HO1.out.alloc _) ⟨w1.heap.size, 0, none⟩ 1 1 (vcell (nm, false)) (by simp [Act.eval]) rfl (by exact new3_cells w1 (nm, false)) (one_cells _) (by unfold maxLen; omega) (by omega) (by simp; omega) ?_; intro v' w' hown' hgrow; obtain ⟨g', cap', hv'⟩ := own_form hown' (Nat.succ_pos _); subst hv'; obtain ⟨hPc, hPf⟩ := HP.out.after (HB1.out.alloc (Nat.le_of_lt hsz1) _).drew hgrow)
      all_goals
        have HA := Lib.hid (HP.out.added (HB1.out.alloc (Nat.le_of_lt hsz1) _).drew hown' hgrow)
        clear hown' hgrow
        go_wp2
        go_ret
        exact ⟨(m : Int), rfl, r, HF.out, HA.out.2, .inr ⟨HNO.out, rfl, _, HA.out.1⟩⟩
    · have hy2 : nm.toList.isEmpty = true := by simpa using hy1
      clear hy1
      go_wp2_with fail
      go_region_law (refine step_append_owned rfl (.tmp 23) (.tmp 26) 24 rfl B 28 i0 (.agg #[.string ⟨#[]⟩, .slice none 0 0, .bool false]) 3 48 Yba.underlying24 hi hz0 hz1 hz2 rfl (by decide) sv m (vcells V m) (by simp [Act.eval]) (by exact HO1.out.alloc _) ⟨w1.heap.size, 0, none⟩ 1 1 (vcell (nm, false)) (by simp [Act.eval]) rfl (by exact new3_cells w1 (nm, false)) (one_cells _) (by unfold maxLen; omega) (by omega) (by simp; omega) ?_; intro v' w' hown' hgrow; obtain ⟨g', cap', hv'⟩ := own_form hown' (Nat.succ_pos _); subst hv'; obtain ⟨hPc, hPf⟩ := HP.out.after (HB1.out.alloc (Nat.le_of_lt hsz1) _).drew hgrow)
      all_goals
        have HA := Lib.hid (HP.out.added (HB1.out.alloc (Nat.le_of_lt hsz1) _).drew hown' hgrow)
        clear hown' hgrow
        go_wp2
        go_ret
        exact ⟨(m : Int), rfl, r, HF.out, HA.out.2, .inr ⟨HNO.out, rfl, _, HA.out.1⟩⟩
end Go.Proofs.Ybulkcupo
