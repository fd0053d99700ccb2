/- The numbers under which this dump holds sync.Mutex's functions and types, and that it holds them (the kit's record MuLib); printed by my program locks.py. -/
import Derived.Test.YtlkicobpfbgloaaRows
import Derived.Conc.MuLone
import Derived.WalkKit
namespace Go.Proofs.Ytlkicobpfbgloaa
abbrev muLink : Go.Conc.Locks.MuLink := { lock := 13, unlock := 14, ilock := 15, iunlock := 16, lockSlow := 21, unlockSlow := 24, disable := 17, enable := 19, acquire := 20, relMerge := 22, cas32 := 18, add32 := 23, tMutex := 114, tIMutex := 112, tPMutex := 134, tPIMutex := 135, tPI32 := 137, tUP := 139, tNoCopy := 110, tU32 := 29 }
theorem muLib : Go.Conc.Locks.MuLib Try.prog muLink :=
  ⟨Try.func13, Try.func14, Try.func15, Try.func16, Try.func17, Try.func19, Try.func20, Try.func22, Try.func18, Try.func23, Try.underlying112, run_underlying Try.underlying112, Try.sizeOf112, Try.isAgg112, Try.zeroValue112, Try.underlying114, run_underlying Try.underlying114, Try.sizeOf114, Try.isAgg114, Try.zeroValue114, Try.underlying134, run_underlying Try.underlying134, Try.sizeOf134, Try.isAgg134, Try.zeroValue134, Try.underlying135, run_underlying Try.underlying135, Try.sizeOf135, Try.isAgg135, Try.zeroValue135, Try.underlying137, run_underlying Try.underlying137, Try.sizeOf137, Try.isAgg137, Try.zeroValue137, Try.underlying139, run_underlying Try.underlying139, Try.sizeOf139, Try.isAgg139, Try.zeroValue139, Try.underlying110, run_underlying Try.underlying110, Try.sizeOf110, Try.isAgg110, Try.zeroValue110, Try.underlying21, run_underlying Try.underlying21, Try.sizeOf21, Try.isAgg21, Try.zeroValue21, (by kernel_rfl)⟩
end Go.Proofs.Ytlkicobpfbgloaa
