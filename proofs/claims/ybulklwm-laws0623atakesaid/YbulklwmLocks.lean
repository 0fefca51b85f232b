/-
  The numbers under which this program holds the lock's functions and types; the atomic cells; the condition variable.
-/
import Derived.Test.YbulklwmRows
import Derived.Conc.MuLone
import Derived.Conc.MuData
import Derived.WalkKit
import Derived.ProofKit
import Derived.Below
import Derived.KernelRfl
namespace Go.Proofs.Ybulklwm
open Go.ChangeShapes Go.WideShapes Go.ChangeAt Go.RowKit Go.Instr Go.MuLone
set_option linter.unusedVariables false

abbrev muLink : Go.Conc.Locks.MuLink := { lock := 5, unlock := 8, ilock := 11, iunlock := 17, lockSlow := 23, unlockSlow := 29, disable := 19, enable := 21, acquire := 22, relMerge := 27, cas32 := 20, add32 := 28, tMutex := 49, tIMutex := 47, tPMutex := 78, tPIMutex := 83, tPI32 := 85, tUP := 52, tNoCopy := 45, tU32 := 39 }
theorem muLib : Go.Conc.Locks.MuLib Yba.prog muLink :=
  ⟨Yba.func5, Yba.func8, Yba.func11, Yba.func17, Yba.func19, Yba.func21, Yba.func22, Yba.func27, Yba.func20, Yba.func28, Yba.underlying47, Yba.runUnderlying47, Yba.sizeOf47, Yba.isAgg47, Yba.zeroValue47, Yba.underlying49, Yba.runUnderlying49, Yba.sizeOf49, Yba.isAgg49, Yba.zeroValue49, Yba.underlying78, Yba.runUnderlying78, Yba.sizeOf78, Yba.isAgg78, Yba.zeroValue78, Yba.underlying83, Yba.runUnderlying83, Yba.sizeOf83, Yba.isAgg83, Yba.zeroValue83, Yba.underlying85, Yba.runUnderlying85, Yba.sizeOf85, Yba.isAgg85, Yba.zeroValue85, Yba.underlying52, Yba.runUnderlying52, Yba.sizeOf52, Yba.isAgg52, Yba.zeroValue52, Yba.underlying45, Yba.runUnderlying45, Yba.sizeOf45, Yba.isAgg45, Yba.zeroValue45, Yba.underlying21, Yba.runUnderlying21, Yba.sizeOf21, Yba.isAgg21, Yba.zeroValue21, (by kernel_rfl)⟩

/-- '(*sync/atomic.Int64).Store'. -/
theorem store_any (a : Addr) (y : Int) (u : Value) (w : World) (hc : w.cell? a = some u) (hz : w.frozen? a = false) :
    Calls Yba.prog 4 #[.pointer (some a), .int .i64 y] w fun e w' => e = .returned (.tuple #[]) ∧ w' = w.setCell a (.int .i64 y) := by
  have h := run_call_store (P := Yba.prog) Yba.func10 (by kernel_rfl) (by kernel_rfl) (by kernel_rfl) (by kernel_rfl) (k := .i64) (y := y) hc hz
  go_enter Yba.func4, Yba.ntmps4
  go_wp2
  go_end0
  exact ⟨rfl, rfl⟩

/-- '(*sync/atomic.Int64).Load'. -/
theorem load_any (a : Addr) (x : Int) (w : World) (hc : w.cell? a = some (.int .i64 x)) :
    Calls Yba.prog 9 #[.pointer (some a)] w fun e w' => e = .returned (.int .i64 x) ∧ w' = w := by
  have h := run_call_load (P := Yba.prog) Yba.func18 (by kernel_rfl) (by kernel_rfl) (by kernel_rfl) .i64 (by kernel_rfl) hc
  go_enter Yba.func9, Yba.ntmps9
  go_wp2
  go_ret
  exact ⟨rfl, rfl⟩

/-- '(*sync/atomic.Int64).Add(-1)'. -/
theorem sub_any (a : Addr) (x : Int) (w : World) (hc : w.cell? a = some (.int .i64 x)) (hz : w.frozen? a = false) (h0 : 0 < x) (h1 : x ≤ 1000) :
    Calls Yba.prog 24 #[.pointer (some a), .int .i64 (-1)] w fun e w' => e = .returned (.int .i64 (x - 1)) ∧ w' = w.setCell a (.int .i64 (x - 1)) := by
  have h := run_call_add (P := Yba.prog) Yba.func35 (by kernel_rfl) (by kernel_rfl) (by kernel_rfl) .i64 (by kernel_rfl) (y := -1) (s := x - 1) hc hz (by
    have e : IntKind.i64.wrap (x + -1) = x - 1 := by rw [Go.IntWalk.i64_in (x + -1) ⟨by omega, by omega⟩]; omega
    simp [go_sem, e])
  go_enter Yba.func24, Yba.ntmps24
  go_wp2
  go_ret
  exact ⟨rfl, rfl⟩

set_option maxRecDepth 100000 in
/-- '(*internal/sync.Mutex).TryLock', the lock free: taken. -/
theorem itry_free (a : Addr) (w : World) (hc : w.cell? a = some (.int .i32 0)) (hz : w.frozen? a = false) :
    Calls Yba.prog 16 #[.pointer (some a)] w fun e w' => e = .returned (.bool true) ∧ w' = w.setCell a (.int .i32 1) := by
  have hd := disable muLib
  have he := enable muLib
  have ha := acquire muLib
  have hcas := run_call_cas_hit (P := Yba.prog) Yba.func20 (by kernel_rfl) (by kernel_rfl) (by kernel_rfl) .i32 (by kernel_rfl) (y := 1) hc hz
  have hc' : (w.setCell a (.int .i32 1)).cell? a = some (.int .i32 1) := by simp [go_sem, hc]
  have hcv := run_convert_to_unsafe (P := Yba.prog) (src := 83) (dst := 52) Yba.underlying83 Yba.underlying52 muLib.room_tIMutex hc'
  go_enter Yba.func16, Yba.ntmps16
  go_wp2
  go_ret
  exact ⟨rfl, rfl⟩
/-- .. the lock held: not taken. -/
theorem itry_held (a : Addr) (w : World) (hc : w.cell? a = some (.int .i32 1)) :
    Calls Yba.prog 16 #[.pointer (some a)] w fun e w' => e = .returned (.bool false) ∧ w' = w := by
  have hd := disable muLib
  have he := enable muLib
  go_enter Yba.func16, Yba.ntmps16
  go_wp2
  go_ret
  exact ⟨rfl, rfl⟩
theorem try_free (a : Addr) (w : World) (hc : w.cell? a = some (.int .i32 0)) (hz : w.frozen? a = false) :
    Calls Yba.prog 7 #[.pointer (some a)] w fun e w' => e = .returned (.bool true) ∧ w' = w.setCell a (.int .i32 1) := by
  go_enter Yba.func7, Yba.ntmps7
  go_wp2_with (go_at_call 16; refine (itry_free _ _ hc hz).mono ?_; rintro e w' ⟨rfl, rfl⟩)
  go_ret
  exact ⟨rfl, rfl⟩
theorem try_held (a : Addr) (w : World) (hc : w.cell? a = some (.int .i32 1)) :
    Calls Yba.prog 7 #[.pointer (some a)] w fun e w' => e = .returned (.bool false) ∧ w' = w := by
  go_enter Yba.func7, Yba.ntmps7
  go_wp2_with (go_at_call 16; refine (itry_held _ _ hc).mono ?_; rintro e w' ⟨rfl, rfl⟩)
  go_ret
  exact ⟨rfl, rfl⟩

/-- The condition variable's check, the first time. -/
theorem check_first (a : Addr) (w : World) (hc : w.cell? a = some (.int .u64 0)) (hz : w.frozen? a = false) : (callFunc 25 #[.pointer (some a)]).run Yba.prog w = .ok (.value (.tuple #[])) (w.setCell a (.pointer (some a))) := by
  rw [run_callFunc_extern (P := Yba.prog) Yba.func25 (by kernel_rfl) (by kernel_rfl) (by kernel_rfl) (e := Extern.SyncCond.check) (by kernel_rfl)]
  have hs := run_store Yba.prog w a (.pointer (some a)) .atomic rfl
  simp only [hc, hz] at hs
  delta Extern.SyncCond.check
  conv => lhs; arg 1; arg 2; whnf
  simp only [Sem.run, hc, Sem.bind]
  simp [Extern.SyncCond.isSelf, Extern.SyncCond.none_, hc, hs, Result.andThen]
/-- Nobody waits: nobody is woken. -/
theorem notify_none (b off : Nat) (w : World) (h0 : w.cell? ⟨b, off, none⟩ = some (.int .u32 0)) (h1 : w.cell? ⟨b, off + 1, none⟩ = some (.int .u32 0)) : (callFunc 26 #[.pointer (some ⟨b, off, none⟩)]).run Yba.prog w = .ok (.value (.tuple #[])) w := by
  rw [run_callFunc_extern (P := Yba.prog) Yba.func26 (by kernel_rfl) (by kernel_rfl) (by kernel_rfl) (e := Extern.SyncCond.notifyOne) (by kernel_rfl)]
  have e0 : (⟨b, off, none⟩ : Addr).add 0 = ⟨b, off, none⟩ := rfl
  have e1 : (⟨b, off, none⟩ : Addr).add 1 = ⟨b, off + 1, none⟩ := rfl
  simp [Extern.SyncCond.notifyOne, Extern.SyncCond.list, Extern.SyncCond.counter, Extern.SyncCond.none_, h0, h1, e0, e1, Result.andThen]

/-- '(*sync.Cond).Signal' on one that nobody waits on, the first time. -/
theorem signal_any (b off : Nat) (w : World) (h1 : w.cell? ⟨b, off + 1, none⟩ = some (.int .u32 0)) (h2 : w.cell? ⟨b, off + 2, none⟩ = some (.int .u32 0)) (h6 : w.cell? ⟨b, off + 6, none⟩ = some (.int .u64 0)) (z6 : w.frozen? ⟨b, off + 6, none⟩ = false) :
    Calls Yba.prog 15 #[.pointer (some ⟨b, off, none⟩)] w fun e w' => e = .returned (.tuple #[]) ∧ w' = w.setCell ⟨b, off + 6, none⟩ (.pointer (some ⟨b, off + 6, none⟩)) := by
  have hk := check_first ⟨b, off + 6, none⟩ w h6 z6
  have hn := notify_none b (off + 1) (w.setCell ⟨b, off + 6, none⟩ (.pointer (some ⟨b, off + 6, none⟩)))
    ((World.cell?_setCell_other _ ⟨b, off + 6, none⟩ ⟨b, off + 1, none⟩ _ (by simp)).trans h1) ((World.cell?_setCell_other _ ⟨b, off + 6, none⟩ ⟨b, off + 2, none⟩ _ (by simp)).trans h2)
  go_enter Yba.func15, Yba.ntmps15
  go_wp2
  go_end0
  exact ⟨rfl, rfl⟩
end Go.Proofs.Ybulklwm
