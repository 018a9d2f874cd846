import Derived.Test.YbulkcqewRows
import Derived.Conc.MuLone
import Derived.Laws.LoneSync
import Derived.KernelRfl
namespace Go.Proofs.Ybulkcqew
abbrev muLink : Go.Conc.Locks.MuLink := { lock := 11, unlock := 12, ilock := 16, iunlock := 17, lockSlow := 23, unlockSlow := 26, disable := 19, enable := 21, acquire := 22, relMerge := 24, cas32 := 20, add32 := 25, tMutex := 38, tIMutex := 36, tPMutex := 53, tPIMutex := 55, tPI32 := 57, tUP := 59, tNoCopy := 33, tU32 := 34 }
theorem muLib : Go.Conc.Locks.MuLib Yba.prog muLink :=
  ⟨Yba.func11, Yba.func12, Yba.func16, Yba.func17, Yba.func19, Yba.func21, Yba.func22, Yba.func24, Yba.func20, Yba.func25, Yba.underlying36, Yba.runUnderlying36, Yba.sizeOf36, Yba.isAgg36, Yba.zeroValue36, Yba.underlying38, Yba.runUnderlying38, Yba.sizeOf38, Yba.isAgg38, Yba.zeroValue38, Yba.underlying53, Yba.runUnderlying53, Yba.sizeOf53, Yba.isAgg53, Yba.zeroValue53, Yba.underlying55, Yba.runUnderlying55, Yba.sizeOf55, Yba.isAgg55, Yba.zeroValue55, Yba.underlying57, Yba.runUnderlying57, Yba.sizeOf57, Yba.isAgg57, Yba.zeroValue57, Yba.underlying59, Yba.runUnderlying59, Yba.sizeOf59, Yba.isAgg59, Yba.zeroValue59, Yba.underlying33, Yba.runUnderlying33, Yba.sizeOf33, Yba.isAgg33, Yba.zeroValue33, Yba.underlying21, Yba.runUnderlying21, Yba.sizeOf21, Yba.isAgg21, Yba.zeroValue21, (by kernel_rfl)⟩

theorem load13 {a : Addr} {x : Int} {w : World} (hc : w.cell? a = some (.int .i64 x)) : (callFunc 13 #[.pointer (some a)]).run Yba.prog w = .ok (.value (.int .i64 x)) w :=
  run_call_load Yba.func13 (by kernel_rfl) (by kernel_rfl) (by kernel_rfl) .i64 (by kernel_rfl) hc
theorem store15 {a : Addr} {y : Int} {u : Value} {w : World} (hc : w.cell? a = some u) (hz : w.frozen? a = false) : (callFunc 15 #[.pointer (some a), .int .i64 y]).run Yba.prog w = .ok (.value (.tuple #[])) (w.setCell a (.int .i64 y)) :=
  run_call_store Yba.func15 (by kernel_rfl) (by kernel_rfl) (by kernel_rfl) (by kernel_rfl) hc hz
theorem add18 {a : Addr} {x y s : Int} {w : World} (hc : w.cell? a = some (.int .i64 x)) (hz : w.frozen? a = false) (hs : (Op.intArith .add .i64 x y).run Yba.prog w = .ok (.int .i64 s) w) :
    (callFunc 18 #[.pointer (some a), .int .i64 y]).run Yba.prog w = .ok (.value (.int .i64 s)) (w.setCell a (.int .i64 s)) :=
  run_call_add Yba.func18 (by kernel_rfl) (by kernel_rfl) (by kernel_rfl) .i64 (by kernel_rfl) hc hz hs
end Go.Proofs.Ybulkcqew
