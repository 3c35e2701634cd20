/-
  The numbers under which this dump holds sync.Mutex's functions and types, and that it holds them (as the guide's StatsLocks text has it, typed for this program); TryLock on a free lock.
-/
import Derived.Test.YbulkdpxcRows
import Derived.Conc.RwLib
import Derived.Conc.MuData
import Derived.Conc.MuLone
import Derived.WalkKit
import Derived.WalkSpells
import Derived.KernelRfl
import Derived.Defers
import Derived.Laws.LoneSync
import Derived.Laws.Pointers
namespace Go.Proofs.Ybulkdpxc
open Go.MuLone Go.RowKit
abbrev muLink : Go.Conc.Locks.MuLink := { lock := 11, unlock := 8, ilock := 16, iunlock := 14, lockSlow := 24, unlockSlow := 23, disable := 17, enable := 18, acquire := 20, relMerge := 21, cas32 := 19, add32 := 22, tMutex := 43, tIMutex := 41, tPMutex := 85, tPIMutex := 86, tPI32 := 88, tUP := 90, tNoCopy := 38, tU32 := 39 }
theorem muLib : Go.Conc.Locks.MuLib Yba.prog muLink :=
  ⟨Yba.func11, Yba.func8, Yba.func16, Yba.func14, Yba.func17, Yba.func18, Yba.func20, Yba.func21, Yba.func19, Yba.func22, Yba.underlying41, Yba.runUnderlying41, Yba.sizeOf41, Yba.isAgg41, Yba.zeroValue41, Yba.underlying43, Yba.runUnderlying43, Yba.sizeOf43, Yba.isAgg43, Yba.zeroValue43, Yba.underlying85, Yba.runUnderlying85, Yba.sizeOf85, Yba.isAgg85, Yba.zeroValue85, Yba.underlying86, Yba.runUnderlying86, Yba.sizeOf86, Yba.isAgg86, Yba.zeroValue86, Yba.underlying88, Yba.runUnderlying88, Yba.sizeOf88, Yba.isAgg88, Yba.zeroValue88, Yba.underlying90, Yba.runUnderlying90, Yba.sizeOf90, Yba.isAgg90, Yba.zeroValue90, Yba.underlying38, Yba.runUnderlying38, Yba.sizeOf38, Yba.isAgg38, Yba.zeroValue38, Yba.underlying21, Yba.runUnderlying21, Yba.sizeOf21, Yba.isAgg21, Yba.zeroValue21, (by kernel_rfl)⟩

set_option maxRecDepth 100000 in
set_option maxHeartbeats 800000 in
/-- '(*internal/sync.Mutex).TryLock', free (state 0): taken. -/
theorem itrylock_free (a : Addr) (w : World) (hc : w.cell? a = some (.int .i32 0)) (hz : w.frozen? a = false) :
    Calls Yba.prog 13 #[.pointer (some a)] w fun e w' => e = .returned (.bool true) ∧ w' = w.setCell a (.int .i32 1) := by
  have hd : ∀ w, (callFunc 17 #[]).run Yba.prog w = .ok (.value (.tuple #[])) w := disable muLib
  have he : ∀ w, (callFunc 18 #[]).run Yba.prog w = .ok (.value (.tuple #[])) w := enable muLib
  have ha : ∀ a w, (callFunc 20 #[.pointer (some a)]).run Yba.prog w = .ok (.value (.tuple #[])) w := acquire muLib
  have hcas := run_call_cas_hit (P := Yba.prog) Yba.func19 (by kernel_rfl) (by kernel_rfl) (by kernel_rfl) .i32 (by kernel_rfl) (y := 1) hc hz
  have hc' : (w.setCell a (.int .i32 1)).cell? a = some (.int .i32 1) := by simp [go_sem, hc]
  have hcv := run_convert_to_unsafe (P := Yba.prog) (src := 86) (dst := 90) Yba.underlying86 Yba.underlying90 (by kernel_rfl) hc'
  have b1 : bits .and .i32 0 5 = 0 := by decide
  have b2 : bits .or .i32 0 1 = 1 := by decide
  go_enter Yba.func13, Yba.ntmps13
  go_wp2
  go_ret
  exact ⟨rfl, rfl⟩

set_option maxHeartbeats 800000 in
theorem trylock_free (a : Addr) (w : World) (hc : w.cell? a = some (.int .i32 0)) (hz : w.frozen? a = false) :
    Calls Yba.prog 7 #[.pointer (some a)] w fun e w' => e = .returned (.bool true) ∧ w' = w.setCell a (.int .i32 1) := by
  go_enter Yba.func7, Yba.ntmps7
  go_wp2_with (go_at_call 13; refine (itrylock_free a _ hc hz).mono ?_; rintro e w' ⟨rfl, rfl⟩)
  go_ret
  exact ⟨rfl, rfl⟩

/-- '(time.Time).IsZero' at the zero time. -/
theorem isZero_zero (w : World) : Calls Yba.prog 6 #[.agg #[.int .u64 0, .int .i64 0, .pointer none]] w fun e w' => e = .returned (.bool true) ∧ w' = w.alloc (.cells #[.int .u64 0, .int .i64 0, .pointer none] 29) := by
  go_enter Yba.func6, Yba.ntmps6
  go_wp2
  go_ret
  exact ⟨rfl, rfl⟩

set_option maxHeartbeats 800000 in
/-- '(*handshakes).checking', the lock free. -/
theorem checking_any (bs hb : Nat) (c ev : Bool) (w : World) (h0 : w.cell? ⟨bs, 0, none⟩ = some (.int .i32 0)) (f0 : w.frozen? ⟨bs, 0, none⟩ = false)
    (h4 : w.cell? ⟨hb, 4, none⟩ = some (.bool c)) (f4 : w.frozen? ⟨hb, 4, none⟩ = false) (h5 : w.cell? ⟨hb, 5, none⟩ = some (.bool ev)) (hne : ¬ bs = hb) :
    Calls Yba.prog 5 #[.pointer (some ⟨bs, 0, none⟩), .pointer (some ⟨hb, 0, none⟩)] w fun e w' => e = .returned (.bool (!ev)) ∧
      w' = ((w.setCell ⟨bs, 0, none⟩ (.int .i32 1)).setCell ⟨hb, 4, none⟩ (.bool true)).setCell ⟨bs, 0, none⟩ (.int .i32 0) := by
  have hne' : ¬ hb = bs := fun e => hne e.symm
  go_enter_defers Yba.func5, Yba.ntmps5
  go_wp2_with (go_at_call 11; refine (lock_free muLib ⟨bs, 0, none⟩ _ h0 f0).mono ?_; rintro e w' ⟨rfl, rfl⟩)
  refine leaves_cons (f := 8) (args := #[.pointer (some ⟨bs, 0, none⟩)]) (by simp) (by simp [go_sem]) ?_
  refine (unlock_deferred muLib ⟨bs, 0, none⟩ .returning _ ?_ ?_).mono ?_
  · exact (World.cell?_setCell_other _ ⟨hb, 4, none⟩ ⟨bs, 0, none⟩ _ (by simp)).trans (World.cell?_setCell_same w ⟨bs, 0, none⟩ (.int .i32 1) h0)
  · simp [f0]
  rintro e u' w'' ⟨rfl, rfl, rfl⟩
  exact ⟨_, results_tmp rfl _ _ _, rfl, rfl⟩
end Go.Proofs.Ybulkdpxc
