/-
  The numbers under which this program holds sync.Mutex's functions and types.
-/
import Derived.Test.YtocciemgdikmjaaDoorProg
import Derived.Conc.MuLone
import Derived.KernelRfl
namespace Go.Proofs.YtocciemgdikmjaaDoor
abbrev muLink : Go.Conc.Locks.MuLink := { lock := 93, unlock := 94, ilock := 108, iunlock := 109, lockSlow := 121, unlockSlow := 124, disable := 117, enable := 119, acquire := 120, relMerge := 122, cas32 := 118, add32 := 123, tMutex := 134, tIMutex := 132, tPMutex := 150, tPIMutex := 164, tPI32 := 166, tUP := 158, tNoCopy := 130, tU32 := 67 }
theorem muLib : Go.Conc.Locks.MuLib Tryd.prog muLink :=
  ⟨Tryd.func93, Tryd.func94, Tryd.func108, Tryd.func109, Tryd.func117, Tryd.func119, Tryd.func120, Tryd.func122, Tryd.func118, Tryd.func123, Tryd.underlying132, Tryd.runUnderlying132, Tryd.sizeOf132, Tryd.isAgg132, Tryd.zeroValue132, Tryd.underlying134, Tryd.runUnderlying134, Tryd.sizeOf134, Tryd.isAgg134, Tryd.zeroValue134, Tryd.underlying150, Tryd.runUnderlying150, Tryd.sizeOf150, Tryd.isAgg150, Tryd.zeroValue150, Tryd.underlying164, Tryd.runUnderlying164, Tryd.sizeOf164, Tryd.isAgg164, Tryd.zeroValue164, Tryd.underlying166, Tryd.runUnderlying166, Tryd.sizeOf166, Tryd.isAgg166, Tryd.zeroValue166, Tryd.underlying158, Tryd.runUnderlying158, Tryd.sizeOf158, Tryd.isAgg158, Tryd.zeroValue158, Tryd.underlying130, Tryd.runUnderlying130, Tryd.sizeOf130, Tryd.isAgg130, Tryd.zeroValue130, Tryd.underlying21, Tryd.runUnderlying21, Tryd.sizeOf21, Tryd.isAgg21, Tryd.zeroValue21, (by kernel_rfl)⟩
end Go.Proofs.YtocciemgdikmjaaDoor
