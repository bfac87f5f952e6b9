import Derived.Test.YbulkcuomRows
import Derived.Conc.MuLone
import Derived.KernelRfl
import Derived.WalkKit
namespace Go.Proofs
abbrev Yba.muLink : Go.Conc.Locks.MuLink := { lock := 10, unlock := 8, ilock := 13, iunlock := 12, lockSlow := 21, unlockSlow := 20, disable := 14, enable := 15, acquire := 17, relMerge := 18, cas32 := 16, add32 := 19, tMutex := 38, tIMutex := 36, tPMutex := 58, tPIMutex := 59, tPI32 := 61, tUP := 63, tNoCopy := 33, tU32 := 34 }
theorem Yba.muLib : Go.Conc.Locks.MuLib Yba.prog Yba.muLink :=
  ⟨Yba.func10, Yba.func8, Yba.func13, Yba.func12, Yba.func14, Yba.func15, Yba.func17, Yba.func18, Yba.func16, Yba.func19, Yba.underlying36, Yba.runUnderlying36, Yba.sizeOf36, Yba.isAgg36, Yba.zeroValue36, Yba.underlying38, Yba.runUnderlying38, Yba.sizeOf38, Yba.isAgg38, Yba.zeroValue38, Yba.underlying58, Yba.runUnderlying58, Yba.sizeOf58, Yba.isAgg58, Yba.zeroValue58, Yba.underlying59, Yba.runUnderlying59, Yba.sizeOf59, Yba.isAgg59, Yba.zeroValue59, Yba.underlying61, Yba.runUnderlying61, Yba.sizeOf61, Yba.isAgg61, Yba.zeroValue61, Yba.underlying63, Yba.runUnderlying63, Yba.sizeOf63, Yba.isAgg63, Yba.zeroValue63, Yba.underlying33, Yba.runUnderlying33, Yba.sizeOf33, Yba.isAgg33, Yba.zeroValue33, Yba.underlying21, Yba.runUnderlying21, Yba.sizeOf21, Yba.isAgg21, Yba.zeroValue21, (by kernel_rfl)⟩

namespace Ybulkcuom
open Go.MuLone Go.RowKit
/-- The mutex's pointer turned to the bare pointer: the address as it is. -/
theorem bare (a : Addr) (v : Value) (w : World) (hc : w.cell? a = some v) : (convert 59 63 (.pointer (some a))).run Yba.prog w = .ok (.pointer (some a)) w := by
  obtain ⟨e, n, hsh, hlt, hsp⟩ := World.shape?_of_cell? hc
  obtain ⟨i, hi, hz0⟩ := Option.map_eq_some_iff.1 Yba.muLib.room_tIMutex
  have hz : i.size ≠ 0 := by simpa using hz0
  have hge : ¬ (n ≤ a.off) := by omega
  simp only [convert, Sem.run_bind, run_underlying Yba.underlying59, run_underlying Yba.underlying63, Result.andThen_ok]
  refine (Sem.run_bind _ _ _ _).trans ?_
  simp [Conv.seenAt, viewAt, cellsIn, sizeOf, typeInfo, run_underlying Yba.underlying59, run_underlying Yba.underlying63, hi, hz, hsh, hge, Result.andThen]

set_option maxHeartbeats 800000 in
/-- '(*internal/sync.Mutex).TryLock', the lock free: it is taken. -/
theorem itry_free (a : Addr) (w : World) (hc : w.cell? a = some (.int .i32 0)) (hz : w.frozen? a = false) :
    Calls Yba.prog 11 #[.pointer (some a)] w fun e w' => e = .returned (.bool true) ∧ w' = w.setCell a (.int .i32 1) := by
  have hd : ∀ w, (callFunc 14 #[]).run Yba.prog w = .ok (.value (.tuple #[])) w := disable Yba.muLib
  have he : ∀ w, (callFunc 15 #[]).run Yba.prog w = .ok (.value (.tuple #[])) w := enable Yba.muLib
  have hr : ∀ a w, (callFunc 17 #[.pointer (some a)]).run Yba.prog w = .ok (.value (.tuple #[])) w := acquire Yba.muLib
  have hcas : (callFunc 16 #[.pointer (some a), .int .i32 0, .int .i32 1]).run Yba.prog w = .ok (.value (.bool true)) (w.setCell a (.int .i32 1)) := run_call_cas_hit (P := Yba.prog) Yba.muLib.f_cas32 (by kernel_rfl) (by kernel_rfl) (by kernel_rfl) .i32 (by kernel_rfl) (y := 1) hc hz
  have hc' : (w.setCell a (.int .i32 1)).cell? a = some (.int .i32 1) := by simp [go_sem, hc]
  have hcv := bare a _ _ hc'
  go_enter Yba.func11, Yba.ntmps11
  go_wp2
  go_ret
  exact ⟨rfl, rfl⟩

set_option maxHeartbeats 800000 in
/-- '(*sync.Mutex).TryLock', the lock free: it is taken. -/
theorem try_free (a : Addr) (w : World) (hc : w.cell? a = some (.int .i32 0)) (hz : w.frozen? a = false) :
    Calls Yba.prog 7 #[.pointer (some a)] w fun e w' => e = .returned (.bool true) ∧ w' = w.setCell a (.int .i32 1) := by
  go_enter Yba.func7, Yba.ntmps7
  go_wp2_with (go_at_call 11; refine (itry_free a w hc hz).mono ?_; rintro e w1 ⟨rfl, rfl⟩)
  go_ret
  exact ⟨rfl, rfl⟩
end Ybulkcuom
end Go.Proofs
