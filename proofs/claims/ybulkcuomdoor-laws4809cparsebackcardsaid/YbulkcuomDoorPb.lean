import Derived.Test.YbulkcuomDoorStr
import Derived.WalkSpells
namespace Go.Proofs.YbulkcuomDoor
open Go.Shelf Go.RowKit

namespace Txt
open Go.Lib
/-- The reader's state: k entries read, d digits of the next, at place p, q gathered. -/
def St (z : Nat → Nat) (n m k d p q : Nat) : Prop :=
  (k < n ∧ d ≤ nDigits (z k) ∧ p = pos z k + d ∧ q = cur (z k) d) ∨ (k = n ∧ d = 0 ∧ p = m + 1 ∧ q = 0)

theorem St.start (z : Nat → Nat) (n m : Nat) (h : 0 < n) : St z n m 0 0 0 0 :=
  .inl ⟨h, Nat.zero_le _, rfl, (cur_zero _).symm⟩

theorem St.parts (z : Nat → Nat) (n m k d p q : Nat) (hz : ∀ i, z i < 18446744073709551616) (hacc : (acc z n).length = m) (h : St z n m k d p q) :
    (k = n ∧ p = m + 1) ∨
    (k < n ∧ p < m ∧ ∃ c : Nat, (acc z n)[p]? = some (UInt8.ofNat (48 + c)) ∧ c < 10 ∧ (0 < d → 0 < q) ∧ q * 10 + c < 18446744073709551616 ∧ d ≤ 20 ∧ St z n m k (d + 1) (p + 1) (q * 10 + c)) ∨
    (k + 1 < n ∧ p < m ∧ (acc z n)[p]? = some 44 ∧ 0 < d ∧ q = z k ∧ St z n m (k + 1) 0 (p + 1) 0) ∨
    (k + 1 = n ∧ p = m ∧ 0 < d ∧ q = z k ∧ St z n m (k + 1) 0 (p + 1) 0) := by
  rcases h with ⟨hk, hd, rfl, rfl⟩ | ⟨rfl, rfl, rfl, rfl⟩
  · have h20 := nDig20 (z k) (hz k)
    have h1 := nDigits_pos (z k)
    obtain ⟨r, hr⟩ := acc_prefix z (k + 1) (n - (k + 1))
    rw [show k + 1 + (n - (k + 1)) = n by omega] at hr
    have hle : pos z k + nDigits (z k) ≤ m := by rw [← acc_succ_len, ← hacc, hr]; simp
    by_cases hdd : d < nDigits (z k)
    · refine .inr (.inl ⟨hk, by omega, digitAt (z k) d, acc_digit z n k d hk hdd, digitAt_lt _ _, fun h0 => cur_pos _ _ h0 hdd, ?_, by omega, ?_⟩)
      · rw [← cur_succ _ _ hdd]; exact Nat.lt_of_le_of_lt (cur_le _ _) (hz k)
      · exact .inl ⟨hk, hdd, rfl, (cur_succ _ _ hdd).symm⟩
    · obtain rfl : d = nDigits (z k) := by omega
      by_cases hl : k + 1 < n
      · refine .inr (.inr (.inl ⟨hl, ?_, acc_comma z n k hl, h1, cur_full _, .inl ⟨hl, Nat.zero_le _, ?_, (cur_zero _).symm⟩⟩))
        · have := (List.getElem?_eq_some_iff.1 (acc_comma z n k hl)).1; omega
        · rw [pos_succ]
      · obtain rfl : n = k + 1 := by omega
        have hm : pos z k + nDigits (z k) = m := by rw [← acc_succ_len]; exact hacc
        exact .inr (.inr (.inr ⟨rfl, hm, h1, cur_full _, .inr ⟨rfl, rfl, by omega, rfl⟩⟩))
  · exact .inl ⟨rfl, rfl⟩
end Txt

open Txt in
set_option maxHeartbeats 1000000 in
set_option maxRecDepth 100000 in
theorem parse_core (b off n cap : Nat) (z : Nat → Nat) (hn0 : 0 < n) (hn : n ≤ 1024) (hz : ∀ i, z i < 18446744073709551616) (w : World)
    (hc : ∀ i, i < n → w.cell? ⟨b, off + i, none⟩ = some (.int .u64 (z i))) (hb : b < w.heap.size) (s : ByteArray) (m : Nat) (hs1 : m + 2 ≤ s.size) (hs2 : s.size ≤ m + 2) (hm : m ≤ 30000)
    (h91 : ∀ h : 0 < s.size, (s[0].toNat : Int) = 91)
    (h93 : ∀ h : s.size - 1 < s.size, (s[s.size - 1].toNat : Int) = 93) (t : ByteArray) (ht : s.extract 1 (s.size - 1) = t) (ht1 : m ≤ t.size) (ht2 : t.size ≤ m) (hacc : Hid ((acc z n).length = m)) (hby : Hid (∀ i u, (acc z n)[i]? = some u → ∀ h : i < t.size, ((t[i]'h).toNat : Int) = u.toNat))
    (HS : Hid (Calls Ybad.prog 10 #[.slice (some ⟨b, off, none⟩) n cap] w fun e w' => e = .returned (.string s) ∧ Below w.heap.size w w')) :
    Calls Ybad.prog 6 #[.slice (some ⟨b, off, none⟩) n cap] w fun e w' => e = .returned (.bool true) ∧ Below w.heap.size w w' := by
  have HT := Lib.hid ht
  clear ht
  have hn0' : ((n : Int) == 0) = false := by simp; omega
  go_enter Ybad.func6, Ybad.ntmps6
  go_wp2_with (go_at_call 10; refine (HS.out).mono ?_; rintro e w1 ⟨rfl, hnx1⟩; refine Hid.out ?_)
  refine Lib.hid ?_
  go_wp2_with fail
  rw [HT.out]
  clear HT h91 h93 hs1 hs2 HS
  go_loop [5, 6, 7, 8] (fun vk vq vd vi => ∃ k d p q : Nat, vk = .int .i64 k ∧ vq = .int .u64 q ∧ vd = .int .i64 d ∧ vi = .int .i64 p ∧ St z n m k d p q) (fun _ _ _ i => m + 1 - (intOf i).toNat)
  case atStart => exact ⟨0, 0, 0, 0, rfl, rfl, rfl, rfl, St.start z n m hn0⟩
  case round =>
    obtain ⟨k, d, p, q, rfl, rfl, rfl, rfl, hst⟩ := hrel
    have hkn : k ≤ n := by rcases hst with h | h <;> omega
    have hp0 : p ≤ m + 1 := by rcases (St.parts z n m k d p q hz hacc.out hst) with h | h | h | h <;> omega
    rcases (St.parts z n m k d p q hz hacc.out hst) with ⟨hk, hp⟩ | ⟨hk, hp, c, hg, hc10, hq0, hq64, hd, hst'⟩ | ⟨hk, hp, hg, hd, hq, hst'⟩ | ⟨hk, hp, hd, hq, hst'⟩
    · have hkB : ((k : Int) == (n : Int)) = true := by rw [hk]; simp
      have hpm : m < p := by omega
      have HK := Lib.hid hk
      clear hk hp hst
      go_wp2
      go_ret
      exact ⟨rfl, hnx1⟩
    · have hbp : ∀ h : p < t.size, ((t[p]'h).toNat : Int) = ((48 + c : Nat) : Int) := fun h => by rw [hby.out p _ hg h]; simp; omega
      have hpn : ((p : Int) == (t.size : Int)) = false := by simp; omega
      have hcn : (((48 + c : Nat) : Int) == 44) = false := by simp; omega
      have hcc : ∀ a : Int, a + (48 + (c : Int) - 48) = a + c := fun a => by omega
      have HC := Lib.hid hcc
      clear hst hg hcc
      by_cases hd0 : 0 < d
      · have hqn : ((q : Int) == 0) = false := by have := hq0 hd0; simp; omega
        go_wp2
        go_round
        case rel => exact ⟨k, d + 1, p + 1, q * 10 + c, rfl, by rw [HC.out]; go_num, by go_num, by go_num, hst'⟩
        case measure => simp [intOf]; omega
      · go_wp2
        go_round
        case rel => exact ⟨k, d + 1, p + 1, q * 10 + c, rfl, by rw [HC.out]; go_num, by go_num, by go_num, hst'⟩
        case measure => simp [intOf]; omega
    · have hbp : ∀ h : p < t.size, ((t[p]'h).toNat : Int) = 44 := fun h => by rw [hby.out p _ hg h]; rfl
      have hpn : ((p : Int) == (t.size : Int)) = false := by simp; omega
      have hdn : ((d : Int) == 0) = false := by simp; omega
      have hcx : w1.cell? ⟨b, off + k, none⟩ = some (.int .u64 (z k)) := (hnx1.cell (by exact hb)).trans (hc k (by omega))
      have hkn' : k < n := by omega
      subst hq
      clear hst hg hc
      go_wp2
      go_round
      case rel => exact ⟨k + 1, 0, p + 1, 0, by go_num, rfl, rfl, by go_num, hst'⟩
      case measure => simp [intOf]; omega
    · have hpn : ((p : Int) == (t.size : Int)) = true := by simp; omega
      have hdn : ((d : Int) == 0) = false := by simp; omega
      have hcx : w1.cell? ⟨b, off + k, none⟩ = some (.int .u64 (z k)) := (hnx1.cell (by exact hb)).trans (hc k (by omega))
      have hkn' : k < n := by omega
      have hpm : p ≤ m := by omega
      have HK := Lib.hid hk
      subst hq
      clear hst hc hp hk
      go_wp2
      go_round
      case rel => exact ⟨k + 1, 0, p + 1, 0, by go_num, rfl, rfl, by go_num, hst'⟩
      case measure => simp [intOf]; omega

open Txt in
theorem text_size (z : Nat → Nat) (n : Nat) : (⟨(text z n).toArray⟩ : ByteArray).size = (acc z n).length + 2 := by
  simp [ByteArray.size, text]

open Txt in
theorem text_cut (z : Nat → Nat) (n : Nat) : (⟨(text z n).toArray⟩ : ByteArray).extract 1 ((⟨(text z n).toArray⟩ : ByteArray).size - 1) = ⟨(acc z n).toArray⟩ := by
  rw [text_size]
  apply ByteArray.ext
  rw [ByteArray.data_extract]
  apply Array.ext'
  simp [text]

open Txt in
/-- The law at a vector of one to 1,024 entries. -/
theorem parse_pos (b off n cap : Nat) (z : Nat → Nat) (hn0 : 0 < n) (hn : n ≤ 1024) (hz : ∀ i, z i < 18446744073709551616) (w : World)
    (hc : ∀ i, i < n → w.cell? ⟨b, off + i, none⟩ = some (.int .u64 (z i))) (hb : b < w.heap.size)
    (htab : Lib.TabIs Ybad.prog w tabName .u64 Lib.pow10Tab) :
    Calls Ybad.prog 6 #[.slice (some ⟨b, off, none⟩) n cap] w fun e w' => e = .returned (.bool true) ∧ Below w.heap.size w w' := by
  have hlen := acc_len_le z hz n
  have hsz := text_size z n
  refine parse_core b off n cap z hn0 hn hz w hc hb ⟨(text z n).toArray⟩ (acc z n).length (by omega) (by omega) (by omega) ?_ ?_ ⟨(acc z n).toArray⟩ (text_cut z n) ?_ ?_ rfl ?_ (string_pos b off n cap z hn0 hn hz w hc hb htab)
  · intro h; rfl
  · intro h
    have e : (⟨(text z n).toArray⟩ : ByteArray).size - 1 = (acc z n).length + 1 := by omega
    have e2 : (text z n)[(acc z n).length + 1]? = some 93 := by
      unfold text; rw [List.getElem?_append_right (by simp)]; simp
    have e3 := (List.getElem?_eq_some_iff.1 e2)
    obtain ⟨h3, e3⟩ := e3
    have : (⟨(text z n).toArray⟩ : ByteArray)[(⟨(text z n).toArray⟩ : ByteArray).size - 1] = (text z n)[(acc z n).length + 1] := by
      simp only [e]; rfl
    rw [this, e3]; rfl
  · simp [ByteArray.size]
  · simp [ByteArray.size]
  · intro i u hu h
    obtain ⟨h1, h2⟩ := List.getElem?_eq_some_iff.1 hu
    rw [← h2]; rfl

open Txt in
set_option maxHeartbeats 400000 in
/-- The law at no entry. -/
theorem parse_zero (a : Option Addr) (cap : Nat) (w : World) :
    Calls Ybad.prog 6 #[.slice a 0 cap] w fun e w' => e = .returned (.bool true) ∧ Below w.heap.size w w' := by
  have HS := string_zero a cap (fun _ => 0) w
  rw [show text (fun _ => 0) 0 = [91, 93] from rfl] at HS
  have HS := Lib.hid HS
  go_enter Ybad.func6, Ybad.ntmps6
  go_wp2_with (go_at_call 10; refine (HS.out).mono ?_; rintro e w1 ⟨rfl, hnx1⟩)
  go_ret
  exact ⟨rfl, hnx1⟩

set_option maxHeartbeats 400000 in
/-- The law at more than 1,024 entries. -/
theorem parse_big (a : Option Addr) (n cap : Nat) (hn : 1024 < n) (hn2 : n ≤ 9223372036854775807) (w : World) :
    Calls Ybad.prog 6 #[.slice a n cap] w fun e w' => e = .returned (.bool true) ∧ Below w.heap.size w w' := by
  go_enter Ybad.func6, Ybad.ntmps6
  go_wp2_with fail
  go_ret
  exact ⟨rfl, Below.refl _ _⟩
end Go.Proofs.YbulkcuomDoor
