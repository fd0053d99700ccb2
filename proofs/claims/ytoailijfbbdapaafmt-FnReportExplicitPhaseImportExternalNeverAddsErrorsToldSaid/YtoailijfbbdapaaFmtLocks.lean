/- The numbers under which this dump holds sync.Mutex's functions and types, and that it holds them (the kit's record MuLib); printed by my program locks.py. -/
import Derived.Test.YtoailijfbbdapaaFmtRows
import Derived.Conc.MuLone
import Derived.WalkKit
namespace Go.Proofs.YtoailijfbbdapaaFmt
abbrev muLink : Go.Conc.Locks.MuLink := { lock := 8, unlock := 9, ilock := 15, iunlock := 16, lockSlow := 25, unlockSlow := 28, disable := 21, enable := 23, acquire := 24, relMerge := 26, cas32 := 22, add32 := 27, tMutex := 57, tIMutex := 55, tPMutex := 60, tPIMutex := 68, tPI32 := 70, tUP := 72, tNoCopy := 52, tU32 := 53 }
theorem muLib : Go.Conc.Locks.MuLib Tryf.prog muLink :=
  ⟨Tryf.func8, Tryf.func9, Tryf.func15, Tryf.func16, Tryf.func21, Tryf.func23, Tryf.func24, Tryf.func26, Tryf.func22, Tryf.func27, Tryf.underlying55, run_underlying Tryf.underlying55, Tryf.sizeOf55, Tryf.isAgg55, Tryf.zeroValue55, Tryf.underlying57, run_underlying Tryf.underlying57, Tryf.sizeOf57, Tryf.isAgg57, Tryf.zeroValue57, Tryf.underlying60, run_underlying Tryf.underlying60, Tryf.sizeOf60, Tryf.isAgg60, Tryf.zeroValue60, Tryf.underlying68, run_underlying Tryf.underlying68, Tryf.sizeOf68, Tryf.isAgg68, Tryf.zeroValue68, Tryf.underlying70, run_underlying Tryf.underlying70, Tryf.sizeOf70, Tryf.isAgg70, Tryf.zeroValue70, Tryf.underlying72, run_underlying Tryf.underlying72, Tryf.sizeOf72, Tryf.isAgg72, Tryf.zeroValue72, Tryf.underlying52, run_underlying Tryf.underlying52, Tryf.sizeOf52, Tryf.isAgg52, Tryf.zeroValue52, Tryf.underlying21, run_underlying Tryf.underlying21, Tryf.sizeOf21, Tryf.isAgg21, Tryf.zeroValue21, (by kernel_rfl)⟩
end Go.Proofs.YtoailijfbbdapaaFmt
