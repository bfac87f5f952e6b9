import Derived.Test.YbulkcuomTk
import Derived.Maps.RangeRun
namespace Go.Proofs.Ybulkcuom
open Go.RowKit Go.MuLone
open Go.ChangeMaps (setBlock)

theorem countP_strike (p : Nat → Bool) (i : Nat) : ∀ L : List Nat, L.Nodup → i ∈ L → (L.filter (fun j => j != i)).countP p + (if p i then 1 else 0) = L.countP p
  | [], _, h => by cases h
  | x :: L, hn, h => by
    obtain ⟨hx, hn⟩ := List.nodup_cons.1 hn
    by_cases hxi : x = i
    · subst hxi
      have hL : L.filter (fun j => j != x) = L := List.filter_eq_self.2 fun a ha => by
        simp only [bne_iff_ne, ne_eq]; intro e; subst e; exact hx ha
      rw [List.filter_cons, if_neg (by simp), hL, List.countP_cons]
    · have hi : i ∈ L := by
        rcases List.mem_cons.1 h with e | e
        · exact absurd e.symm hxi
        · exact e
      have ih := countP_strike p i L hn hi
      rw [List.filter_cons, if_pos (by simpa using hxi), List.countP_cons, List.countP_cons]
      omega

/-- The connections still to come. -/
def toCome (n : Nat) (seen : Array Nat) : List Nat := (List.range n).filter fun i => !seen.contains i

theorem toCome_nodup (n : Nat) (seen : Array Nat) : (toCome n seen).Nodup := List.Pairwise.filter _ List.nodup_range
theorem toCome_none (n : Nat) : toCome n #[] = List.range n := List.filter_eq_self.2 fun _ _ => by simp
theorem toCome_push (n i : Nat) (seen : Array Nat) : toCome n (seen.push i) = (toCome n seen).filter (fun j => j != i) := by
  unfold toCome
  rw [List.filter_filter]
  congr 1
  funext j
  by_cases h : j = i
  · subst h; simp
  · simp [h]
theorem leftOf_ents (c0 n : Nat) (f : Nat → Bool) (seen : Array Nat) : (leftOf (ents c0 f n) seen).toList = (toCome n seen).map (ent c0 f) := by
  unfold leftOf ents toCome
  rw [Array.toList_filter, List.filter_map]
  rfl

/-- How many of the first n are untaken. -/
def untakenOf (f : Nat → Bool) (n : Nat) : Nat := (List.range n).countP fun i => !f i

/-- The loop's measure: how many are still to come. -/
def comeIn (n r : Nat) (w : World) : Nat := match w.heap[r]? with
  | some (.mapIter _ _ seen _) => (toCome n seen).length
  | _ => 0

theorem comeIn_of {n r : Nat} {w : World} {m : Option Nat} {s c : Nat} {seen : Array Nat} (h : w.heap[r]? = some (.mapIter m s seen c)) : comeIn n r w = (toCome n seen).length := by
  simp [comeIn, h]

theorem unlock_below {w wr : World} {A : Nat} {mp : Value} (hA : Free w A mp) (hb : Below w.heap.size (w.setCell ⟨A, 6, none⟩ (.int .i32 1)) wr) : Below w.heap.size w (wr.setCell ⟨A, 6, none⟩ (.int .i32 0)) := by
  obtain ⟨cs, t, h1, h2, _⟩ := hA
  have hlt : A < w.heap.size := (Array.getElem?_eq_some_iff.1 h1).1
  have hw : wr.heap[A]? = some (.cells (cs.setIfInBounds 6 (.int .i32 1)) t (0, 0)) := by rw [hb.block A hlt]; exact heap_setCell_at h1 _
  refine ⟨hb.os, hb.tape, hb.output, by have := hb.size; simpa [World.setCell] using this, fun j hj => ?_⟩
  by_cases hjA : j = A
  · subst hjA
    rw [heap_setCell_at hw, h1]
    congr 2
    apply Array.ext_getElem?
    intro i
    by_cases hi : 6 = i
    · subst hi
      have : 6 < cs.size := (Array.getElem?_eq_some_iff.1 h2).1
      rw [h2]; simp [this]
    · rw [Array.getElem?_setIfInBounds_ne hi, Array.getElem?_setIfInBounds_ne hi]
  · rw [Below.heap_setCell _ _ _ _ hjA, hb.block j hj, Below.heap_setCell _ _ _ _ hjA]

set_option maxHeartbeats 1600000 in
theorem untaken_any (A M c0 n : Nat) (f : Nat → Bool) (hn : n ≤ 1024) (w : World) (hA : Free w A (.map (some M))) (hne : A ≠ M) (hM : w.heap[M]? = some (.map (ents c0 f n) n)) :
    Calls Yba.prog 9 #[.pointer (some ⟨A, 0, none⟩)] w fun e w' => e = .returned (.int .i64 (untakenOf f n)) ∧ Below w.heap.size w w' := by
  have hMs : M < w.heap.size := (Array.getElem?_eq_some_iff.1 hM).1
  have hM1 : (w.setCell ⟨A, 6, none⟩ (.int .i32 1)).heap[M]? = some (.map (ents c0 f n) n) := by rw [Below.heap_setCell _ _ _ _ (by exact fun e => hne e.symm)]; exact hM
  have hrg := run_range_map (P := Yba.prog) (w.setCell ⟨A, 6, none⟩ (.int .i32 1)) 39 57 4 M _ n Yba.underlying39 hM1
  rw [show (w.setCell ⟨A, 6, none⟩ (.int .i32 1)).heap.size = w.heap.size by simp [World.setCell]] at hrg
  have c0' := World.cell?_setCell_same w ⟨A, 6, none⟩ (.int .i32 1) hA.mu
  have hmu := hA.mu
  have hin := hA.inn
  have hfz := hA.fz 6
  have HA := Hid.out (p := Hid _) hA
  have HM := Hid.out (p := Hid _) hM1
  clear hA hM hM1
  go_enter_defers Yba.func9, Yba.ntmps9
  go_wp2_with (go_at_call 10; refine (lock_free Yba.muLib ⟨A, 6, none⟩ _ hmu hfz).mono ?_; rintro e w' ⟨rfl, rfl⟩)
  go_loopw [3] (fun v wr => ∃ (seen : Array Nat) (c : Nat), v = .int .i64 c ∧ c ≤ 1024 ∧ c + (toCome n seen).countP (fun i => !f i) = untakenOf f n ∧ wr.heap[w.heap.size]? = some (.mapIter (some M) n seen n) ∧ Below w.heap.size (w.setCell ⟨A, 6, none⟩ (.int .i32 1)) wr) (fun _ wr => comeIn n w.heap.size wr)
  case atStart => exact ⟨#[], 0, rfl, by omega, by rw [toCome_none, Nat.zero_add]; rfl, by rw [← show (w.setCell ⟨A, 6, none⟩ (.int .i32 1)).heap.size = w.heap.size by simp [World.setCell]]; exact heap_alloc_new _ _, (Below.refl _ _).alloc (by simp [World.setCell]) _⟩
  case round =>
    obtain ⟨seen, c, rfl, hc, hcnt, hit, hbl⟩ := hrel
    have hwM : wr.heap[M]? = some (.map (ents c0 f n) n) := by rw [hbl.block M hMs]; exact HM
    have hold : ∀ x ∈ (ents c0 f n).toList, x.born < n := fun x hx => by
      simp only [ents, List.mem_map, List.mem_range] at hx
      obtain ⟨i, hi, rfl⟩ := hx
      exact hi
    have hnd : ((ents c0 f n).toList.map (·.born)).Nodup := by
      have e : (ents c0 f n).toList.map (·.born) = List.range n := by
        simp only [ents, List.map_map]
        exact (List.map_congr_left fun i _ => rfl).trans (List.map_id _)
      rw [e]; exact List.nodup_range
    rcases run_next_at (P := Yba.prog) wr 0 w.heap.size M n n seen _ n hit hwM hold (Nat.le_refl _) with ⟨hl, hrun⟩ | ⟨e, he, w1, hw1, hrun⟩
    · have hz : toCome n seen = [] := by
        have h1 := leftOf_ents c0 n f seen
        rw [Array.eq_empty_of_size_eq_zero hl] at h1
        exact List.map_eq_nil_iff.1 h1.symm
      rw [hz] at hcnt
      simp only [List.countP_nil, Nat.add_zero] at hcnt
      have HC := Hid.out (p := Hid _) hcnt
      have cx : wr.cell? ⟨A, 6, none⟩ = some (.int .i32 1) := by rw [hbl.cell (by exact World.block_lt_of_cell? w _ hmu)]; exact c0'
      have fx : wr.frozen? ⟨A, 6, none⟩ = false := by rw [hbl.frozen (by exact World.block_lt_of_cell? w _ hmu)]; simp [hfz]
      have hub := unlock_below HA hbl
      have HU := Hid.out (p := Hid _) hub
      clear hcnt hold hnd hwM hit hub hz hl hbl
      go_wp2
      refine leaves_cons (f := 8) (args := #[.pointer (some ⟨A, 6, none⟩)]) (by simp) (by simp [go_sem]) ?_
      refine (unlock_deferred Yba.muLib ⟨A, 6, none⟩ .returning _ cx fx).mono ?_
      rintro e u' w'' ⟨rfl, rfl, rfl⟩
      exact ⟨_, results_tmp rfl _ _ _, (by exact congrArg (fun x : Nat => Ending.returned (.int .i64 (x : Int))) HC.out), HU⟩
    · rw [leftOf_ents] at he
      obtain ⟨i, hi, rfl⟩ := List.mem_map.1 he
      have hiR : i < n := List.mem_range.1 (List.mem_filter.1 hi).1
      have hne2 : M ≠ w.heap.size := by omega
      have hr2 : (setBlock w1 w.heap.size (.mapIter (some M) n (seen.push i) n)).heap[w.heap.size]? = some (.mapIter (some M) n (seen.push i) n) := by
        have h1 : w.heap.size < wr.heap.size := (Array.getElem?_eq_some_iff.1 hit).1
        rcases hw1 with rfl | rfl
        · exact heap_setBlock_at _ _ _ h1
        · exact heap_setBlock_at _ _ _ h1
      have hM2 : (setBlock w1 w.heap.size (.mapIter (some M) n (seen.push i) n)).heap[M]? = some (.map (ents c0 f n) n) := by
        rw [heap_setBlock_other _ _ _ _ hne2]
        rcases hw1 with rfl | rfl <;> exact hwM
      have hbl2 : Below w.heap.size (w.setCell ⟨A, 6, none⟩ (.int .i32 1)) (setBlock w1 w.heap.size (.mapIter (some M) n (seen.push i) n)) := by
        have hb1 : Below w.heap.size (w.setCell ⟨A, 6, none⟩ (.int .i32 1)) w1 := by rcases hw1 with rfl | rfl; exact hbl; exact hbl.drew
        refine ⟨hb1.os, hb1.tape, hb1.output, ?_, fun j hj => ?_⟩
        · have := hb1.size; simpa [setBlock] using this
        · rw [heap_setBlock_other _ _ _ _ (by omega)]; exact hb1.block j hj
      have hen := run_entry_at (P := Yba.prog) _ w.heap.size M n seen _ n (ent c0 f i) hr2 hM2 (by simp only [ents, List.mem_map, List.mem_range]; exact ⟨i, hiR, rfl⟩) hnd
      have hst := countP_strike (fun i => !f i) i _ (toCome_nodup n seen) hi
      have hlen := countP_strike (fun _ => true) i _ (toCome_nodup n seen) hi
      rw [← toCome_push] at hst hlen
      simp only [List.countP_true, if_true] at hlen
      have hcnt' : c + (toCome n seen).countP (fun i => !f i) ≤ 1024 := by
        rw [hcnt]; exact Nat.le_trans (Nat.le_trans List.countP_le_length (by simp)) hn
      have hm1 := comeIn_of (n := n) hit
      have hm2 := comeIn_of (n := n) hr2
      obtain ⟨w2, hw2⟩ : ∃ w2, w2 = setBlock w1 w.heap.size (.mapIter (some M) n (seen.push i) n) := ⟨_, rfl⟩
      rw [show (ent c0 f i).key = key c0 i from rfl, show (ent c0 f i).val = .bool (f i) from rfl] at hrun hen
      rw [show (ent c0 f i).born = i from rfl] at hrun
      rw [← hw2] at hrun hen hbl2 hr2 hm2
      have HST := Hid.out (p := Hid _) hst
      have HLEN := Hid.out (p := Hid _) hlen
      have HCN := Hid.out (p := Hid _) hcnt
      have HM1 := Hid.out (p := Hid _) hm1
      have HM2 := Hid.out (p := Hid _) hm2
      have HR2 := Hid.out (p := Hid _) hr2
      obtain ⟨ky, hky⟩ : ∃ ky, ky = key c0 i := ⟨_, rfl⟩
      rw [← hky] at hrun hen
      clear hst hlen hcnt hm1 hm2 hr2 hw2 hM2 hwM hold hnd hky he hi hw1 hit hbl
      cases hfi : f i with
      | true =>
        rw [hfi] at hrun hen HST
        clear hfi
        go_wp2
        go_roundw
        case rel => exact ⟨seen.push i, c, rfl, hc, by have := HST.out; have := HCN.out; simp at *; omega, HR2, hbl2⟩
        case measure => rw [HM1.out, HM2.out]; have := HLEN.out; omega
      | false =>
        rw [hfi] at hrun hen HST
        clear hfi
        have hc1 : c + 1 ≤ 1024 := by have := HST.out; simp at this; omega
        go_wp2
        go_roundw
        case rel => exact ⟨seen.push i, c + 1, by go_num, hc1, by have := HST.out; have := HCN.out; simp at *; omega, HR2, hbl2⟩
        case measure => rw [HM1.out, HM2.out]; have := HLEN.out; omega
end Go.Proofs.Ybulkcuom
