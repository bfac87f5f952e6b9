import Derived.Test.YbulkcupoNum
namespace Go.Proofs.Ybulkcupo
open Go.RowKit

set_option maxRecDepth 100000 in
set_option maxHeartbeats 3200000 in
theorem numbers (ia ta ca : Option Addr) (n0 icap tl tcap nc ccap : Nat) (I C : Nat → ByteArray) (T : Nat → Bool) (hn0 : n0 ≤ 1024) (hnc : nc ≤ 1024) (htl : tl ≤ 9223372036854775807) (w : World)
    (hI : Strs w ia n0 I) (hC : Strs w ca nc C) (hT : Bools w ta tl T) :
    Calls Yba.prog 3 #[.slice ia n0 icap, .slice ta tl tcap, .slice ca nc ccap] w fun e w' => e = .returned (.bool true) ∧ Below w.heap.size w w' := by
  obtain ⟨i28, hi28, hz28, hs28, hb28⟩ := info_parts info28
  obtain ⟨i9, hi9, hz9, hs9, hb9⟩ := info_parts info9
  have hd1 : decide ((1024 : Int) < (n0 : Int)) = false := by rw [decide_eq_false_iff_not]; omega
  have hd2 : decide ((1024 : Int) < (nc : Int)) = false := by rw [decide_eq_false_iff_not]; omega
  go_enter Yba.func3, Yba.ntmps3
  go_wp2_with (at_make; refine wpList_make_own w rfl _ _ 24 rfl w.heap.size 28 i28 (.agg #[.string ⟨#[]⟩, .slice none 0 0, .bool false]) 3 Yba.underlying24 hi28 hz28 hs28 .i64 .i64 (n0 : Int) n0 rfl rfl rfl (by rw [hb28]; omega) (by unfold maxLen; omega) (Nat.le_refl _) ?_; intro w1 hv1 hg1; refine Hid.out ?_)
  refine Lib.hid ?_
  go_wp2_with (at_make; refine wpList_make_own w1 rfl _ _ 22 rfl w.heap.size 9 i9 (.string ⟨#[]⟩) 1 Yba.underlying22 hi9 hz9 hs9 .i64 .i64 (n0 : Int) n0 rfl rfl rfl (by rw [hb9]; omega) (by unfold maxLen; omega) hg1.size ?_; intro w2 hv2 hg2; refine Hid.out ?_)
  refine Lib.hid ?_
  have hR0 : Rows2 w w2 _ _ 0 (start I tl T) := ⟨((Below.refl w.heap.size w).grown hg1 (Nat.le_refl _) (fun k hk => by cases hk)).grown hg2 hg1.size (fun k hk => by cases hk), hv1.kept hg2 (.inr (by simp [Value.ownBlock])), hv2⟩
  have HR0 := Lib.hid hR0
  clear hR0 hv1 hv2 hg1 hg2
  go_wp2_with fail
  go_loopw [7, 8, 9] (fun vv nv i wr => ∃ k : Nat, k ≤ n0 ∧ i = .int .i64 k ∧ Rows2 w wr vv nv k (start I tl T)) (fun _ _ i _ => n0 - (intOf i).toNat)
  case atStart => exact ⟨0, Nat.zero_le _, rfl, HR0.out⟩
  case round =>
    obtain ⟨k, hk, rfl, hr⟩ := hrel
    clear HR0
    have hrs := hr.size
    by_cases hlt : k < n0
    · have HT := Lib.hid (this_any ta tl tcap k T wr htl (by omega) (hT.below hr.below))
      have HR := Lib.hid hr
      cases hth : thisOf tl T k with
      | true =>
        rw [hth] at HT
        have HX := Lib.hid (show start I tl T k = (⟨#[]⟩, true) by simp [start, hth])
        clear hr hth
        go_wp2_with (first
          | (go_at_call 5; refine (HT.out).mono ?_; rintro e w3 ⟨rfl, rfl⟩)
          | (at_builtin; refine wpList_append_own _ rfl _ _ 24 rfl w.heap.size 28 i28 (.agg #[.string ⟨#[]⟩, .slice none 0 0, .bool false]) 3 48 Yba.underlying24 hi28 hz28 hs28 hb28 rfl (by decide) _ _ _ rfl (HR.out.vars.alloc _) ⟨wr.heap.size, 0, none⟩ 1 1 (vcell (⟨#[]⟩, true)) rfl rfl (by exact new3_cells wr (⟨#[]⟩, true)) (one_cells _) (by unfold maxLen; omega) (by omega) (by simp; omega) ?_; intro v4 w4 ho4 hg4 _; refine Hid.out ?_))
        refine Lib.hid ?_
        have hn4 := HR.out.namesKept _ hg4
        have hs4 : wr.heap.size < w4.heap.size := by have := hg4.size; simp at this; omega
        go_wp2_with (at_builtin; refine wpList_append_own _ rfl _ _ 22 rfl w.heap.size 9 i9 (.string ⟨#[]⟩) 1 16 Yba.underlying22 hi9 hz9 hs9 hb9 rfl (by decide) _ _ _ rfl (hn4.alloc _) ⟨w4.heap.size, 0, none⟩ 1 1 [.string ⟨#[]⟩] rfl rfl (by exact new1_cells w4 (.string ⟨#[]⟩) 9) (one_string _) (by unfold maxLen; omega) (by omega) (by simp; omega) ?_; intro v5 w5 ho5 hg5 _)
        have HN := Lib.hid (HR.out.next _ HX.out _ _ ho4 hg4 ho5 hg5)
        clear ho4 hg4 ho5 hg5 hn4
        go_wp2
        go_roundw
        case rel => exact ⟨k + 1, by omega, by go_num, HN.out⟩
        case measure => simp [intOf]; omega
      | false =>
        rw [hth] at HT
        obtain ⟨ib, ioff, rfl, hic, hib⟩ := hI k hlt
        have hic' : wr.cell? ⟨ib, ioff + k, none⟩ = some (.string (I k)) := (hr.below.cell (p := ⟨ib, ioff + k, none⟩) hib).trans hic
        have HX := Lib.hid (show start I tl T k = (I k, false) by simp [start, hth])
        obtain ⟨s, hs⟩ : ∃ s, s = I k := ⟨_, rfl⟩
        rw [← hs] at hic' HX
        have hibr : ib < wr.heap.size := by omega
        clear hr hth hic hs
        go_wp2_with (first
          | (go_at_call 5; refine (HT.out).mono ?_; rintro e w3 ⟨rfl, rfl⟩)
          | (at_builtin; refine wpList_append_own _ rfl _ _ 24 rfl w.heap.size 28 i28 (.agg #[.string ⟨#[]⟩, .slice none 0 0, .bool false]) 3 48 Yba.underlying24 hi28 hz28 hs28 hb28 rfl (by decide) _ _ _ rfl (HR.out.vars.alloc _) ⟨wr.heap.size, 0, none⟩ 1 1 (vcell (s, false)) rfl rfl (by exact new3_cells wr (s, false)) (one_cells _) (by unfold maxLen; omega) (by omega) (by simp; omega) ?_; intro v4 w4 ho4 hg4 _; refine Hid.out ?_))
        refine Lib.hid ?_
        have hn4 := HR.out.namesKept _ hg4
        have hs4 : wr.heap.size < w4.heap.size := by have := hg4.size; simp at this; omega
        have hic4 : w4.cell? ⟨ib, ioff + k, none⟩ = some (.string s) := by
          rw [World.cell?_of_block (w := wr) ((hg4.block ib (by simp; omega) (fun e => by have := (HR.out.vars.lt ib e.symm).1; omega)).trans (Below.heap_alloc _ _ _ hibr))]; exact hic'
        go_wp2_with (at_builtin; refine wpList_append_own _ rfl _ _ 22 rfl w.heap.size 9 i9 (.string ⟨#[]⟩) 1 16 Yba.underlying22 hi9 hz9 hs9 hb9 rfl (by decide) _ _ _ rfl (hn4.alloc _) ⟨w4.heap.size, 0, none⟩ 1 1 [.string s] rfl rfl (by exact new1_cells w4 (.string s) 9) (one_string _) (by unfold maxLen; omega) (by omega) (by simp; omega) ?_; intro v5 w5 ho5 hg5 _)
        have HN := Lib.hid (HR.out.next _ HX.out _ _ ho4 hg4 ho5 hg5)
        clear ho4 hg4 ho5 hg5 hn4
        go_wp2
        go_roundw
        case rel => exact ⟨k + 1, by omega, by go_num, HN.out⟩
        case measure => simp [intOf]; omega
    · have hkn : n0 = k := by omega
      subst hkn
      obtain ⟨va, vc, hvs⟩ := own_shape hr.vars
      obtain ⟨na, ncp, hns⟩ := own_shape hr.names
      subst hvs
      subst hns
      have HR := Lib.hid hr
      clear hr
      go_wp2_with fail
      obtain ⟨PB, hPB⟩ : ∃ PB, PB = wr.heap.size := ⟨_, rfl⟩
      have hM0 : Mid w (wr.alloc (.cells (pcells (.slice va n0 vc)) 33)) PB n0 (start I tl T) (.slice na n0 ncp) (.slice va n0 vc) n0 (start I tl T) := by rw [hPB]; exact Mid.start HR.out
      rw [← hPB]
      have HM0 := Lib.hid hM0
      clear hM0 hPB HR
      go_loopw [8, 11] (fun nv i wr => ∃ (k m : Nat) (V : Nat → ByteArray × Bool) (sv : Value), k ≤ nc ∧ i = .int .i64 k ∧ m ≤ n0 + k ∧ Mid w wr PB n0 (start I tl T) nv sv m V) (fun _ i _ => nc - (intOf i).toNat)
      case atStart => exact ⟨0, n0, _, _, Nat.zero_le _, rfl, Nat.le_refl _, HM0.out⟩
      case round =>
        obtain ⟨k, m, V, sv, hk, rfl, hm, hmid⟩ := hrel
        clear HM0
        obtain ⟨na2, ncp2, hns⟩ := own_shape hmid.names
        subst hns
        by_cases hlt : k < nc
        · obtain ⟨cb, coff, rfl, hcc, hcb⟩ := hC k hlt
          have hcell : wr.cell? ⟨cb, coff + k, none⟩ = some (.string (C k)) := (hmid.below.cell (p := ⟨cb, coff + k, none⟩) hcb).trans hcc
          obtain ⟨r0, hf⟩ := first_ex V (C k) m
          obtain ⟨c, hc⟩ : ∃ c, c = C k := ⟨_, rfl⟩
          rw [← hc] at hcell hf
          have HM := Lib.hid hmid
          have HF := Lib.hid hf
          have hws : w.heap.size ≤ wr.heap.size := hmid.below.size
          clear hmid hf hcc hc hC hI
          by_cases he : c.toList.isEmpty = true
          · have HE := Lib.hid (show c.toList = [] by simpa using he)
            go_wp2_with (at_builtin; refine wpList_append_own _ rfl _ _ 22 rfl w.heap.size 9 i9 (.string ⟨#[]⟩) 1 16 Yba.underlying22 hi9 hz9 hs9 hb9 rfl (by decide) _ _ _ rfl (HM.out.names.alloc _) ⟨wr.heap.size, 0, none⟩ 1 1 [.string c] rfl rfl (by exact new1_cells wr (.string c) 9) (one_string _) (by unfold maxLen; omega) (by omega) (by simp; omega) ?_; intro v5 w5 ho5 hg5 hiff; clear hiff; refine Hid.out ?_)
            refine Lib.hid ?_
            have HCN := Lib.hid (HM.out.callNew _ ho5 hg5 (by omega) (.inl HE.out))
            obtain ⟨na5, nc5, hv5⟩ := own_shape ho5
            subst hv5
            have hmm : ((m : Int) != (m : Int)) = false := by simp
            clear ho5 hg5
            go_wp2_with (go_at_call 6; refine (HCN.out).mono ?_; rintro e w6 ⟨rfl, sv6, hm6⟩)
            go_roundw
            case rel => exact ⟨k + 1, m + 1, _, sv6, by omega, by go_num, by omega, hm6⟩
            case measure => simp [intOf]; omega
          · have hne : c.toList.isEmpty = false := by simpa using he
            have HE := Lib.hid (show c.toList ≠ [] by simpa using he)
            clear he
            rcases HF.out with ⟨i, him, rfl, heq, hnot⟩ | ⟨rfl, hnot⟩
            · have HEQ := Lib.hid heq
              have HNOT := Lib.hid hnot
              clear heq hnot
              obtain ⟨g, gcap, hgn⟩ := own_form HM.out.names (by omega)
              simp only [Value.slice.injEq] at hgn
              obtain ⟨rfl, -, rfl⟩ := hgn
              go_wp2_with fail
              go_loop [13, 14] (fun wv jv => ∃ j : Nat, j ≤ i ∧ jv = .int .i64 j ∧ wv = .int .i64 (-1)) (fun _ jv => m - (intOf jv).toNat)
              case atStart => exact ⟨0, Nat.zero_le _, rfl, rfl⟩
              case round =>
                obtain ⟨j, hj, rfl, rfl⟩ := hrel
                have hnc2 := names_cell HM.out.names (show j < m by omega)
                by_cases hji : j = i
                · subst hji
                  have hqB : ((V j).1.toList == c.toList) = true := by rw [beq_iff_eq]; exact HEQ.out
                  obtain ⟨s, hs⟩ : ∃ s, s = (V j).1 := ⟨_, rfl⟩
                  rw [← hs] at hqB hnc2
                  have HCO := Lib.hid (HM.out.callOld (by omega) HE.out HF.out)
                  have hmm : ((j : Int) != (j : Int)) = false := by simp
                  clear hs
                  go_wp2_with (go_at_call 6; refine (HCO.out).mono ?_; rintro e w6 ⟨rfl, hm6⟩)
                  go_roundw
                  case rel => exact ⟨k + 1, m, _, sv, by omega, by go_num, by omega, hm6⟩
                  case measure => simp [intOf]; omega
                · have hqB : ((V j).1.toList == c.toList) = false := by rw [beq_eq_false_iff_ne]; exact HNOT.out j (by omega)
                  obtain ⟨s, hs⟩ : ∃ s, s = (V j).1 := ⟨_, rfl⟩
                  rw [← hs] at hqB hnc2
                  clear hs
                  go_wp2
                  go_round
                  case rel => exact ⟨j + 1, by omega, by go_num, rfl⟩
                  case measure => simp [intOf]; omega
            · have HNOT := Lib.hid hnot
              clear hnot
              go_wp2_with fail
              go_loop [13, 14] (fun wv jv => ∃ j : Nat, j ≤ m ∧ jv = .int .i64 j ∧ wv = .int .i64 (-1)) (fun _ jv => m - (intOf jv).toNat)
              case atStart => exact ⟨0, Nat.zero_le _, rfl, rfl⟩
              case round =>
                obtain ⟨j, hj, rfl, rfl⟩ := hrel
                by_cases hjm : j < m
                · obtain ⟨g, gcap, hgn⟩ := own_form HM.out.names (by omega)
                  simp only [Value.slice.injEq] at hgn
                  obtain ⟨rfl, -, rfl⟩ := hgn
                  have hnc2 := names_cell HM.out.names hjm
                  have hqB : ((V j).1.toList == c.toList) = false := by rw [beq_eq_false_iff_ne]; exact HNOT.out j hjm
                  obtain ⟨s, hs⟩ : ∃ s, s = (V j).1 := ⟨_, rfl⟩
                  rw [← hs] at hqB hnc2
                  clear hs
                  go_wp2
                  go_round
                  case rel => exact ⟨j + 1, by omega, by go_num, rfl⟩
                  case measure => simp [intOf]; omega
                · have hjm' : m = j := by omega
                  subst hjm'
                  go_wp2_with (at_builtin; refine wpList_append_own _ rfl _ _ 22 rfl w.heap.size 9 i9 (.string ⟨#[]⟩) 1 16 Yba.underlying22 hi9 hz9 hs9 hb9 rfl (by decide) _ _ _ rfl (HM.out.names.alloc _) ⟨wr.heap.size, 0, none⟩ 1 1 [.string c] rfl rfl (by exact new1_cells wr (.string c) 9) (one_string _) (by unfold maxLen; omega) (by omega) (by simp; omega) ?_; intro v5 w5 ho5 hg5 hiff; clear hiff; refine Hid.out ?_)
                  refine Lib.hid ?_
                  have HCN := Lib.hid (HM.out.callNew _ ho5 hg5 (by omega) (.inr HF.out))
                  obtain ⟨na5, nc5, hv5⟩ := own_shape ho5
                  subst hv5
                  have hmm : ((m : Int) != (m : Int)) = false := by simp
                  clear ho5 hg5
                  go_wp2_with (go_at_call 6; refine (HCN.out).mono ?_; rintro e w6 ⟨rfl, sv6, hm6⟩)
                  go_roundw
                  case rel => exact ⟨k + 1, m + 1, _, sv6, by omega, by go_num, by omega, hm6⟩
                  case measure => simp [intOf]; omega
        · have hcv : wr.cell? ⟨PB, 3, none⟩ = some sv := hmid.parser.cellv
          obtain ⟨va2, vc2, hvs2⟩ := own_shape hmid.parser.own
          subst hvs2
          have hmm : ((m : Int) != (m : Int)) = false := by simp
          have HM := Lib.hid hmid
          clear hmid hC hI
          go_wp2_with fail
          go_loopw [15] (fun i wr => ∃ j : Nat, j ≤ m ∧ i = .int .i64 j ∧ Mid w wr PB n0 (start I tl T) (.slice na2 m ncp2) (.slice va2 m vc2) m V) (fun i _ => m - (intOf i).toNat)
          case atStart => exact ⟨0, Nat.zero_le _, rfl, HM.out⟩
          case round =>
            obtain ⟨j, hj, rfl, hmid⟩ := hrel
            clear HM hcv
            have hcv : wr.cell? ⟨PB, 3, none⟩ = some (.slice va2 m vc2) := hmid.parser.cellv
            have hPlt : PB < wr.heap.size := (Array.getElem?_eq_some_iff.1 hmid.parser.at_).1
            by_cases hjm : j < m
            · obtain ⟨g, gcap, hgn⟩ := own_form hmid.parser.own (by omega)
              simp only [Value.slice.injEq] at hgn
              obtain ⟨rfl, -, rfl⟩ := hgn
              obtain ⟨gn, gncap, hgn2⟩ := own_form hmid.names (by omega)
              simp only [Value.slice.injEq] at hgn2
              obtain ⟨rfl, -, rfl⟩ := hgn2
              have c0 : wr.cell? ⟨g, j * 3, none⟩ = some (.string (V j).1) := own_cell hmid.parser.own j 0 hjm (by omega)
              have c1 : wr.cell? ⟨g, j * 3 + 1, none⟩ = some (.slice none 0 0) := own_cell hmid.parser.own j 1 hjm (by omega)
              have c2 : wr.cell? ⟨g, j * 3 + 2, none⟩ = some (.bool (V j).2) := own_cell hmid.parser.own j 2 hjm (by omega)
              have cn := names_cell hmid.names hjm
              have hglt := World.block_lt_of_cell? wr _ c0
              have hgnlt := World.block_lt_of_cell? wr _ cn
              simp only at hglt hgnlt
              obtain ⟨s, hs⟩ : ∃ s, s = (V j).1 := ⟨_, rfl⟩
              rw [← hs] at c0 cn
              have q26 : ∀ (w : World) (a : Option Addr) (n c : Nat), (binOp .neq 26 (.slice a n c) (.slice none 0 0)).run Yba.prog w = .ok (.bool (!a.isNone)) w := fun w a n c => run_neq_slice_nil_any w _ _ a n c 0 0 Yba.underlying26
              have HM := Lib.hid hmid
              by_cases hjn : j < n0
              · have hth : (V j).2 = thisOf tl T j := by rw [hmid.old j hjn]; exact start_this I tl T j
                obtain ⟨b, hb⟩ : ∃ b, b = thisOf tl T j := ⟨_, rfl⟩
                rw [hth, ← hb] at c2
                have hBo := (hT.below hmid.below).below ((Below.refl _ _).alloc (Nat.le_refl _) (.cells #[.string s, .slice none 0 0, .bool b] 28))
                have HB := Lib.hid hb
                have HBo := Lib.hid hBo
                clear hmid hs hth hb hBo
                go_wp2_with fail
                go_quiet (fail)
                go_wp2_with fail
                obtain ⟨W2, hW2⟩ : ∃ W2, W2 = (wr.alloc (.cells #[.string s, .slice none 0 0, .bool b] 28)).drewN nq := ⟨_, rfl⟩
                have hcb : W2.cell? ⟨wr.heap.size, 2, none⟩ = some (.bool b) := by rw [hW2]; exact new3_cells wr (s, b) 2 _ rfl
                have hBo2 : Bools W2 ta tl T := by rw [hW2]; exact HBo.out
                have hM2 : Mid w W2 PB n0 (start I tl T) (.slice (some ⟨gn, 0, none⟩) m ncp2) (.slice (some ⟨g, 0, none⟩) m vc2) m V := by rw [hW2]; exact HM.out.grown (((Below.refl _ _).alloc (Nat.le_refl _) (.cells #[.string s, .slice none 0 0, .bool b] 28)).trans ⟨rfl, rfl, rfl, Nat.le_refl _, fun _ _ => rfl⟩)
                rw [← hW2]
                have HM2 := Lib.hid hM2
                have HBo2 := Lib.hid hBo2
                clear hW2 hM2 hBo2 HBo HM c0 c1 c2 cn hcv
                go_quiet ((go_at_call 5; exact Calls.quiet_of_same (this_same ta tl tcap j T b _ htl (by omega) (by exact HBo2.out) HB.out)))
                go_wp2
                go_roundw
                case rel => exact ⟨j + 1, by omega, by go_num, HM2.out.grown ⟨rfl, rfl, rfl, Nat.le_refl _, fun _ _ => rfl⟩⟩
                case measure => simp [intOf]; omega
              · have hth := hmid.new j (by omega) hjm
                rw [hth] at c2
                clear hmid hs hth
                go_wp2_with fail
                go_quiet (fail)
                go_wp2
                go_roundw
                case rel => exact ⟨j + 1, by omega, by go_num, HM.out.grown (((Below.refl _ _).alloc (Nat.le_refl _) (.cells #[.string s, .slice none 0 0, .bool false] 28)).trans ⟨rfl, rfl, rfl, Nat.le_refl _, fun _ _ => rfl⟩)⟩
                case measure => simp [intOf]; omega
            · have hjm' : m = j := by omega
              subst hjm'
              have p0 := hmid.pcell 0
              have p1 := hmid.pcell 1
              have p2 := hmid.pcell 2
              have p4 := hmid.pcell 4
              have p5 := hmid.pcell 5
              have p6 := hmid.pcell 6
              simp [pcells] at p0 p1 p2 p4 p5 p6
              have q30 : ∀ (w : World) (a : Option Addr) (n c : Nat), (binOp .eql 30 (.slice a n c) (.slice none 0 0)).run Yba.prog w = .ok (.bool a.isNone) w := fun w a n c => Lib.run_eql_slice_nil w _ _ a n c 0 0 Yba.underlying30
              have HM := Lib.hid hmid.below
              clear hmid
              go_wp2
              go_ret
              exact ⟨rfl, HM.out⟩
end Go.Proofs.Ybulkcupo
