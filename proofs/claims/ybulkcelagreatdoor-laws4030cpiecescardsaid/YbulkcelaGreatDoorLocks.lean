/-
  The numbers under which this dump holds sync.Mutex, and that it holds it; Lock and Unlock for one goroutine (seat b4030aZD).
-/
import Derived.Test.YbulkcelaGreatDoorKit
import Derived.Conc.MuLone
namespace Go.Proofs
abbrev Ybaz.muLink : Go.Conc.Locks.MuLink := { lock := 90, unlock := 91, ilock := 110, iunlock := 111, lockSlow := 132, unlockSlow := 135, disable := 128, enable := 130, acquire := 131, relMerge := 133, cas32 := 129, add32 := 134, tMutex := 146, tIMutex := 144, tPMutex := 190, tPIMutex := 200, tPI32 := 202, tUP := 204, tNoCopy := 142, tU32 := 115 }
theorem Ybaz.muLib : Go.Conc.Locks.MuLib Ybaz.prog Ybaz.muLink :=
  ⟨Ybaz.func90, Ybaz.func91, Ybaz.func110, Ybaz.func111, Ybaz.func128, Ybaz.func130, Ybaz.func131, Ybaz.func133, Ybaz.func129, Ybaz.func134, Ybaz.underlying144, Ybaz.runUnderlying144, Ybaz.sizeOf144, Ybaz.isAgg144, Ybaz.zeroValue144, Ybaz.underlying146, Ybaz.runUnderlying146, Ybaz.sizeOf146, Ybaz.isAgg146, Ybaz.zeroValue146, Ybaz.underlying190, Ybaz.runUnderlying190, Ybaz.sizeOf190, Ybaz.isAgg190, Ybaz.zeroValue190, Ybaz.underlying200, Ybaz.runUnderlying200, Ybaz.sizeOf200, Ybaz.isAgg200, Ybaz.zeroValue200, Ybaz.underlying202, Ybaz.runUnderlying202, Ybaz.sizeOf202, Ybaz.isAgg202, Ybaz.zeroValue202, Ybaz.underlying204, Ybaz.runUnderlying204, Ybaz.sizeOf204, Ybaz.isAgg204, Ybaz.zeroValue204, Ybaz.underlying142, Ybaz.runUnderlying142, Ybaz.sizeOf142, Ybaz.isAgg142, Ybaz.zeroValue142, Ybaz.underlying21, Ybaz.runUnderlying21, Ybaz.sizeOf21, Ybaz.isAgg21, Ybaz.zeroValue21, (by kernel_rfl)⟩

namespace YbulkcelaGreatDoor
theorem lock90 (a : Addr) (w : World) (hc : w.cell? a = some (.int .i32 0)) (hz : w.frozen? a = false) : Calls Ybaz.prog 90 #[.pointer (some a)] w fun e w' => e = .returned (.tuple #[]) ∧ w' = w.setCell a (.int .i32 1) := Go.MuLone.lock_free Ybaz.muLib a w hc hz
theorem unlock91 (a : Addr) (u : FrameMode) (w : World) (hc : w.cell? a = some (.int .i32 1)) (hz : w.frozen? a = false) : CallsD Ybaz.prog 91 #[.pointer (some a)] u w fun e u' w' => u' = u ∧ (e = .returned (.tuple #[]) ∧ w' = w.setCell a (.int .i32 0)) := Go.MuLone.unlock_deferred Ybaz.muLib a u w hc hz
end YbulkcelaGreatDoor
end Go.Proofs
