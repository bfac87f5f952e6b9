import Derived.Test.YbulkcupoVar
namespace Go.Proofs.Ybulkcupo
open Go.RowKit

theorem Kept.below {w wa wb : World} {B PB m : Nat} {sv : Value} {xs : List Value} (h : Kept wa wb PB sv) (hB : Below B w wa) (hs : B ≤ wa.heap.size) (hP : B ≤ PB) (hown : wa.ownsRow B 28 3 sv m xs) : Below B w wb :=
  hB.trans ⟨h.os, h.tape, h.output, h.size, fun j hj => h.block j (by omega) (by omega) (fun e => by have := (hown.lt j e.symm).1; omega)⟩

theorem first_none {V : Nat → ByteArray × Bool} {nm : ByteArray} {r : Int} (h : IsFirst V nm 0 r) : r = -1 := by
  rcases h with ⟨i, hi, _⟩ | ⟨h, _⟩
  · omega
  · exact h

theorem first_one {V : Nat → ByteArray × Bool} {nm : ByteArray} {r : Int} (h : IsFirst V nm 1 r) (h0 : (V 0).1 = nm) : r = 0 := by
  rcases h with ⟨i, hi, he, _⟩ | ⟨_, h⟩
  · omega
  · exact absurd (by rw [h0]) (h 0 (by omega))

/-- A fresh parser's first call. -/
theorem var_first {w0 w : World} {B PB : Nat} {cs : Array Value} (nm : ByteArray) (V : Nat → ByteArray × Bool) (hp : Parser w B PB cs (.slice none 0 0) 0 V) (hB : Below B w0 w) :
    Calls Yba.prog 6 #[.pointer (some ⟨PB, 0, none⟩), .string nm] w fun e w' => e = .returned (.int .i64 0) ∧ Below B w0 w' ∧ ∃ cs' sv', Parser w' B PB cs' sv' 1 (upd V 0 (nm, false)) := by
  have hlt : PB < w.heap.size := (Array.getElem?_eq_some_iff.1 hp.at_).1
  refine (var_any nm V (by omega) w hp).mono ?_
  rintro e w' ⟨r, rfl, r0, hf, hk, h | ⟨_, rfl, sv', hp'⟩⟩
  · have := first_none hf; omega
  · exact ⟨rfl, hk.below hB (by have := hp.base; omega) hp.base hp.own, _, sv', hp'⟩

/-- Its second call, at a name. -/
theorem var_again {w0 w : World} {B PB : Nat} {cs : Array Value} {sv : Value} (nm : ByteArray) (V : Nat → ByteArray × Bool) (hne : nm.toList.isEmpty = false) (hp : Parser w B PB cs sv 1 (upd V 0 (nm, false))) (hB : Below B w0 w) :
    Calls Yba.prog 6 #[.pointer (some ⟨PB, 0, none⟩), .string nm] w fun e w' => e = .returned (.int .i64 0) ∧ Below B w0 w' ∧ ∃ cs' sv', Parser w' B PB cs' sv' 1 (upd V 0 (nm, false)) := by
  have hlt : PB < w.heap.size := (Array.getElem?_eq_some_iff.1 hp.at_).1
  refine (var_any nm _ (by omega) w hp).mono ?_
  rintro e w' ⟨r, rfl, r0, hf, hk, ⟨_, _, rfl, hp'⟩ | ⟨hn, _⟩⟩
  · have := first_one hf rfl
    subst this
    exact ⟨rfl, hk.below hB (by have := hp.base; omega) hp.base hp.own, _, _, hp'⟩
  · have := first_one hf rfl
    rcases hn with hn | hn
    · rw [hn] at hne; cases hne
    · omega

/-- Its second call, at the empty name. -/
theorem var_anon {w0 w : World} {B PB : Nat} {cs : Array Value} {sv : Value} (nm : ByteArray) (V : Nat → ByteArray × Bool) (hne : nm.toList.isEmpty = true) (hp : Parser w B PB cs sv 1 V) (hB : Below B w0 w) :
    Calls Yba.prog 6 #[.pointer (some ⟨PB, 0, none⟩), .string nm] w fun e w' => e = .returned (.int .i64 1) ∧ Below B w0 w' ∧ ∃ cs' sv', Parser w' B PB cs' sv' 2 (upd V 1 (nm, false)) := by
  have hlt : PB < w.heap.size := (Array.getElem?_eq_some_iff.1 hp.at_).1
  refine (var_any nm _ (by omega) w hp).mono ?_
  rintro e w' ⟨r, rfl, r0, hf, hk, ⟨hn, _⟩ | ⟨_, rfl, sv', hp'⟩⟩
  · exact absurd (by simpa using hne) hn
  · exact ⟨rfl, hk.below hB (by have := hp.base; omega) hp.base hp.own, _, sv', hp'⟩

theorem Parser.cellv {w : World} {B PB m : Nat} {cs : Array Value} {sv : Value} {V : Nat → ByteArray × Bool} (h : Parser w B PB cs sv m V) : w.cell? ⟨PB, 3, none⟩ = some sv := by
  rw [cell_of_row w PB 3 cs 33 (0, 0) h.at_]; exact h.vars

set_option maxHeartbeats 1600000 in
theorem twice (nm : ByteArray) (w : World) :
    Calls Yba.prog 4 #[.string nm] w fun e w' => e = .returned (.bool true) ∧ Below w.heap.size w w' := by
  have hp0 : Parser (w.alloc (.cells #[.string ⟨#[]⟩, .int .i64 0, .bool false, .slice none 0 0, .slice none 0 0, .bool false, .pointer none] 33)) w.heap.size w.heap.size #[.string ⟨#[]⟩, .int .i64 0, .bool false, .slice none 0 0, .slice none 0 0, .bool false, .pointer none] (.slice none 0 0) 0 (fun _ => (nm, false)) :=
    ⟨heap_alloc_new w _, rfl, rfl, World.ownsRow_nil _ _ _ _, Nat.le_refl _⟩
  have HC := Lib.hid (var_first nm _ hp0 ((Below.refl _ _).alloc (Nat.le_refl _) _))
  clear hp0
  by_cases hne : nm.toList.isEmpty = true
  · go_enter Yba.func4, Yba.ntmps4
    go_wp2_with (go_at_call 6; refine (HC.out).mono ?_; rintro e w1 ⟨rfl, hb1, cs1, sv1, hp1⟩; refine Hid.out ?_)
    refine Lib.hid ?_
    have HC1 := Lib.hid (var_anon nm _ hne hp1 hb1)
    clear hp1 hb1 HC
    go_wp2_with (go_at_call 6; refine (HC1.out).mono ?_; rintro e w2 ⟨rfl, hb2, cs2, sv2, hp2⟩; refine Hid.out ?_)
    refine Lib.hid ?_
    have hcv := hp2.cellv
    obtain ⟨g, cap, hsv⟩ := own_form hp2.own (by omega)
    subst hsv
    have c0 := own_cell hp2.own 0 0 (by omega) (by omega)
    have c3 := own_cell hp2.own 1 0 (by omega) (by omega)
    simp [vcell, upd] at c0 c3
    have HB := Lib.hid hb2
    clear hp2 hb2 HC1
    go_wp2
    go_ret
    exact ⟨rfl, HB.out⟩
  · have hnf : nm.toList.isEmpty = false := by simpa using hne
    clear hne
    go_enter Yba.func4, Yba.ntmps4
    go_wp2_with (go_at_call 6; refine (HC.out).mono ?_; rintro e w1 ⟨rfl, hb1, cs1, sv1, hp1⟩; refine Hid.out ?_)
    refine Lib.hid ?_
    have HC1 := Lib.hid (var_again nm _ hnf hp1 hb1)
    clear hp1 hb1 HC
    go_wp2_with (go_at_call 6; refine (HC1.out).mono ?_; rintro e w2 ⟨rfl, hb2, cs2, sv2, hp2⟩; refine Hid.out ?_)
    refine Lib.hid ?_
    have hcv := hp2.cellv
    obtain ⟨g, cap, hsv⟩ := own_form hp2.own (by omega)
    subst hsv
    have c0 := own_cell hp2.own 0 0 (by omega) (by omega)
    have c2 := own_cell hp2.own 0 2 (by omega) (by omega)
    simp [vcell, upd] at c0 c2
    have HB := Lib.hid hb2
    clear hp2 hb2 HC1
    go_wp2
    go_ret
    exact ⟨rfl, HB.out⟩
end Go.Proofs.Ybulkcupo
