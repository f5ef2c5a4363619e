/-
  NARROWER THAN 'FOR EVERY INPUT', by the rows' own cells (each row's printed sentence says how): LawS0907BFixedClock: ifaces, laid · LawS0907BAscending: ifaces, laid · LawS0907BTimeRanOut: ifaces, laid.
  DERIVED. THE GIVEN ROWS OF THIS SEAT. 3 by the template 'for every input the law returns true; each argument reads behind the call as it read before'; 0 by the template 'total and deterministic' (their statements: YbulkrtkDoorTotals.lean).
  GIVEN WITH THE SEED: the statements are not yours to turn. If you find one false, say at which input.
  Laid BY PROGRAM, IN A SANDBOX (cutbox-rows.mjs): the forced cells as the released guide's own fill.sh prints them over the translation 6da5c6552bbfba01… (all of the seat's roots in one cut). By AI agents, Wed Nov 11 2026. No macro, syntax, notation, axiom, sorry.
-/
import Derived.Test.YbulkrtkDoorChecked
import GoSem.Claim
import GoSem.ClaimJoined
import GoSem.ClaimMapViews
import Derived.JoinedTies
import Derived.KernelRfl
namespace Go.Proofs.YbulkrtkDoor
/- THE CELL 'sum', in the pinned program and in every row, IS THE sha256 OF THE DUMP (.gsa) THAT YbulkrtkDoorProg.lean LOADS. Nothing in Lean hashes anything: it is a label: what it is worth is what the hold of that sum in a sandbox is worth. -/
noncomputable def Ybad.pinned : Pinned := { name := "ybulkrtkdoor", sum := "6da5c6552bbfba018331568bf6b304144843452cf277248fd5db0cbadf014c85", checked := Ybad.checked }
namespace Rows
def none {H : Type} : Left H := { results := [], args := [] }

/- WHAT THE LISTED PACKAGE-LEVEL VARIABLES READ AS WHEN THE CALL BEGINS. Each datum BY PROGRAM (the guide's laid-datum.mjs) off the statement by which the dump's own 'gosem.cut.vars' lays the variable. In a bare row this is a premise. The card (YbulkrtkDoorCards.lean) ties it to the program's text. -/
def laid_math_bits_deBruijn32tab {H : Type} : DataW H := .agg [.lit (.int .u8 0), .lit (.int .u8 1), .lit (.int .u8 28), .lit (.int .u8 2), .lit (.int .u8 29), .lit (.int .u8 14), .lit (.int .u8 24), .lit (.int .u8 3), .lit (.int .u8 30), .lit (.int .u8 22), .lit (.int .u8 20), .lit (.int .u8 15), .lit (.int .u8 25), .lit (.int .u8 17), .lit (.int .u8 4), .lit (.int .u8 8), .lit (.int .u8 31), .lit (.int .u8 27), .lit (.int .u8 13), .lit (.int .u8 23), .lit (.int .u8 21), .lit (.int .u8 19), .lit (.int .u8 16), .lit (.int .u8 7), .lit (.int .u8 26), .lit (.int .u8 12), .lit (.int .u8 18), .lit (.int .u8 6), .lit (.int .u8 11), .lit (.int .u8 5), .lit (.int .u8 10), .lit (.int .u8 9)]
def laid_math_bits_deBruijn64tab {H : Type} : DataW H := .agg [.lit (.int .u8 0), .lit (.int .u8 1), .lit (.int .u8 56), .lit (.int .u8 2), .lit (.int .u8 57), .lit (.int .u8 49), .lit (.int .u8 28), .lit (.int .u8 3), .lit (.int .u8 61), .lit (.int .u8 58), .lit (.int .u8 42), .lit (.int .u8 50), .lit (.int .u8 38), .lit (.int .u8 29), .lit (.int .u8 17), .lit (.int .u8 4), .lit (.int .u8 62), .lit (.int .u8 47), .lit (.int .u8 59), .lit (.int .u8 36), .lit (.int .u8 45), .lit (.int .u8 43), .lit (.int .u8 51), .lit (.int .u8 22), .lit (.int .u8 53), .lit (.int .u8 39), .lit (.int .u8 33), .lit (.int .u8 30), .lit (.int .u8 24), .lit (.int .u8 18), .lit (.int .u8 12), .lit (.int .u8 5), .lit (.int .u8 63), .lit (.int .u8 55), .lit (.int .u8 48), .lit (.int .u8 27), .lit (.int .u8 60), .lit (.int .u8 41), .lit (.int .u8 37), .lit (.int .u8 16), .lit (.int .u8 46), .lit (.int .u8 35), .lit (.int .u8 44), .lit (.int .u8 21), .lit (.int .u8 52), .lit (.int .u8 32), .lit (.int .u8 23), .lit (.int .u8 11), .lit (.int .u8 54), .lit (.int .u8 26), .lit (.int .u8 40), .lit (.int .u8 15), .lit (.int .u8 34), .lit (.int .u8 20), .lit (.int .u8 31), .lit (.int .u8 10), .lit (.int .u8 25), .lit (.int .u8 14), .lit (.int .u8 19), .lit (.int .u8 9), .lit (.int .u8 13), .lit (.int .u8 8), .lit (.int .u8 7), .lit (.int .u8 6)]
def laid_internal_strconv_uint64pow10 {H : Type} : DataW H := .agg [.lit (.int .u64 1), .lit (.int .u64 10), .lit (.int .u64 100), .lit (.int .u64 1000), .lit (.int .u64 10000), .lit (.int .u64 100000), .lit (.int .u64 1000000), .lit (.int .u64 10000000), .lit (.int .u64 100000000), .lit (.int .u64 1000000000), .lit (.int .u64 10000000000), .lit (.int .u64 100000000000), .lit (.int .u64 1000000000000), .lit (.int .u64 10000000000000), .lit (.int .u64 100000000000000), .lit (.int .u64 1000000000000000), .lit (.int .u64 10000000000000000), .lit (.int .u64 100000000000000000), .lit (.int .u64 1000000000000000000), .lit (.int .u64 10000000000000000000)]
def laid_example_com_hailstone_hailstone_errTimeRanOut {H : Type} : DataW H := .iface "*errors.errorString" (.ptr (.agg [.lit (.string [116, 104, 101, 32, 108, 97, 121, 111, 117, 116, 39, 115, 32, 116, 105, 109, 101, 32, 104, 97, 115, 32, 114, 117, 110, 32, 111, 117, 116, 32, 102, 111, 114, 32, 116, 104, 105, 115, 32, 101, 112, 111, 99, 104])]))
def laid_example_com_hailstone_hailstone_layouts {H : Type} : DataW H := .agg [.agg [.lit (.string [99, 108, 97, 115, 115, 105, 99]), .lit (.int .i64 1), .agg [.lit (.int .u64 41), .lit (.int .u64 10), .lit (.int .u64 12)]], .agg [.lit (.string [106, 115, 53, 51]), .lit (.int .i64 1000), .agg [.lit (.int .u64 32), .lit (.int .u64 5), .lit (.int .u64 16)]]]

/-- 'hailstone.LawS0907BFixedClock': WHATEVER THE INPUT: true; the input reads as it did. -/
def lawS0907BFixedClockSpec : ChangeSpec := { name := "lawS0907BFixedClock", vars := ["example.com/hailstone/hailstone.layouts", "example.com/hailstone/hailstone.errTimeRanOut"], fn := fun _ => fun
  | [d1, d2, d3, d4, g1, g2] => { results := [.lit (.bool true)], args := [d1, d2, d3, d4], vars := [g1, g2] }
  | _ => none }
def lawS0907BFixedClockRow : OpenClaim := { program := "ybulkrtkdoor", sum := "6da5c6552bbfba018331568bf6b304144843452cf277248fd5db0cbadf014c85", func := "example.com/hailstone/hailstone.LawS0907BFixedClock", spec := "lawS0907BFixedClock", inPlace := ["sync/atomic.StoreInt64", "sync/atomic.LoadInt64", "(*internal/sync.Mutex).Lock", "internal/race.Disable", "sync/atomic.CompareAndSwapInt32", "internal/race.Enable", "internal/race.Acquire", "(*internal/sync.Mutex).lockSlow", "internal/sync.runtime_canSpin", "internal/sync.runtime_doSpin", "internal/sync.throw", "internal/sync.runtime_nanotime", "internal/sync.runtime_SemacquireMutex", "sync/atomic.AddInt32", "(*internal/sync.Mutex).Unlock", "internal/race.ReleaseMerge", "(*internal/sync.Mutex).unlockSlow", "internal/sync.fatal", "internal/sync.runtime_Semrelease", "sync/atomic.CompareAndSwapInt64", "time.Sleep"], unfollowed := true, recurses := true, named := ["example.com/hailstone/hailstone.layouts", "internal/strconv.uint64pow10", "math/bits.deBruijn32tab", "math/bits.deBruijn64tab", "example.com/hailstone/hailstone.errTimeRanOut"], ifaces := true, apart := false, laid := [("math/bits.deBruijn32tab", laid_math_bits_deBruijn32tab), ("math/bits.deBruijn64tab", laid_math_bits_deBruijn64tab), ("internal/strconv.uint64pow10", laid_internal_strconv_uint64pow10), ("example.com/hailstone/hailstone.errTimeRanOut", laid_example_com_hailstone_hailstone_errTimeRanOut), ("example.com/hailstone/hailstone.layouts", laid_example_com_hailstone_hailstone_layouts)] }
def LawS0907BFixedClockSaid : Prop := lawS0907BFixedClockRow.holds Ybad.pinned (OpenSpec.ofChange lawS0907BFixedClockSpec)

/-- ITS FALSE NEIGHBOUR: 'it returns false'. Refute it at one input. -/
def lawS0907BFixedClockWrong : ChangeSpec := { name := "lawS0907BFixedClock", vars := ["example.com/hailstone/hailstone.layouts", "example.com/hailstone/hailstone.errTimeRanOut"], fn := fun _ => fun
  | [d1, d2, d3, d4, g1, g2] => { results := [.lit (.bool false)], args := [d1, d2, d3, d4], vars := [g1, g2] }
  | _ => none }
def LawS0907BFixedClockWrongFalsely : Prop := lawS0907BFixedClockRow.holds Ybad.pinned (OpenSpec.ofChange lawS0907BFixedClockWrong)

/-- 'hailstone.LawS0907BAscending': WHATEVER THE INPUT: true; the input reads as it did. -/
def lawS0907BAscendingSpec : ChangeSpec := { name := "lawS0907BAscending", vars := ["example.com/hailstone/hailstone.layouts", "example.com/hailstone/hailstone.errTimeRanOut"], fn := fun _ => fun
  | [d1, d2, d3, d4, g1, g2] => { results := [.lit (.bool true)], args := [d1, d2, d3, d4], vars := [g1, g2] }
  | _ => none }
def lawS0907BAscendingRow : OpenClaim := { program := "ybulkrtkdoor", sum := "6da5c6552bbfba018331568bf6b304144843452cf277248fd5db0cbadf014c85", func := "example.com/hailstone/hailstone.LawS0907BAscending", spec := "lawS0907BAscending", inPlace := ["sync/atomic.StoreInt64", "sync/atomic.LoadInt64", "(*internal/sync.Mutex).Lock", "internal/race.Disable", "sync/atomic.CompareAndSwapInt32", "internal/race.Enable", "internal/race.Acquire", "(*internal/sync.Mutex).lockSlow", "internal/sync.runtime_canSpin", "internal/sync.runtime_doSpin", "internal/sync.throw", "internal/sync.runtime_nanotime", "internal/sync.runtime_SemacquireMutex", "sync/atomic.AddInt32", "(*internal/sync.Mutex).Unlock", "internal/race.ReleaseMerge", "(*internal/sync.Mutex).unlockSlow", "internal/sync.fatal", "internal/sync.runtime_Semrelease", "sync/atomic.CompareAndSwapInt64", "time.Sleep"], unfollowed := true, recurses := true, named := ["example.com/hailstone/hailstone.layouts", "internal/strconv.uint64pow10", "math/bits.deBruijn32tab", "math/bits.deBruijn64tab", "example.com/hailstone/hailstone.errTimeRanOut"], ifaces := true, apart := false, laid := [("math/bits.deBruijn32tab", laid_math_bits_deBruijn32tab), ("math/bits.deBruijn64tab", laid_math_bits_deBruijn64tab), ("internal/strconv.uint64pow10", laid_internal_strconv_uint64pow10), ("example.com/hailstone/hailstone.errTimeRanOut", laid_example_com_hailstone_hailstone_errTimeRanOut), ("example.com/hailstone/hailstone.layouts", laid_example_com_hailstone_hailstone_layouts)] }
def LawS0907BAscendingSaid : Prop := lawS0907BAscendingRow.holds Ybad.pinned (OpenSpec.ofChange lawS0907BAscendingSpec)

/-- ITS FALSE NEIGHBOUR: 'it returns false'. Refute it at one input. -/
def lawS0907BAscendingWrong : ChangeSpec := { name := "lawS0907BAscending", vars := ["example.com/hailstone/hailstone.layouts", "example.com/hailstone/hailstone.errTimeRanOut"], fn := fun _ => fun
  | [d1, d2, d3, d4, g1, g2] => { results := [.lit (.bool false)], args := [d1, d2, d3, d4], vars := [g1, g2] }
  | _ => none }
def LawS0907BAscendingWrongFalsely : Prop := lawS0907BAscendingRow.holds Ybad.pinned (OpenSpec.ofChange lawS0907BAscendingWrong)

/-- 'hailstone.LawS0907BTimeRanOut': WHATEVER THE INPUT: true; the input reads as it did. -/
def lawS0907BTimeRanOutSpec : ChangeSpec := { name := "lawS0907BTimeRanOut", vars := ["example.com/hailstone/hailstone.errTimeRanOut", "example.com/hailstone/hailstone.layouts"], fn := fun _ => fun
  | [d1, d2, d3, g1, g2] => { results := [.lit (.bool true)], args := [d1, d2, d3], vars := [g1, g2] }
  | _ => none }
def lawS0907BTimeRanOutRow : OpenClaim := { program := "ybulkrtkdoor", sum := "6da5c6552bbfba018331568bf6b304144843452cf277248fd5db0cbadf014c85", func := "example.com/hailstone/hailstone.LawS0907BTimeRanOut", spec := "lawS0907BTimeRanOut", inPlace := ["sync/atomic.StoreInt64", "sync/atomic.LoadInt64", "(*internal/sync.Mutex).Lock", "internal/race.Disable", "sync/atomic.CompareAndSwapInt32", "internal/race.Enable", "internal/race.Acquire", "(*internal/sync.Mutex).lockSlow", "internal/sync.runtime_canSpin", "internal/sync.runtime_doSpin", "internal/sync.throw", "internal/sync.runtime_nanotime", "internal/sync.runtime_SemacquireMutex", "sync/atomic.AddInt32", "(*internal/sync.Mutex).Unlock", "internal/race.ReleaseMerge", "(*internal/sync.Mutex).unlockSlow", "internal/sync.fatal", "internal/sync.runtime_Semrelease", "sync/atomic.CompareAndSwapInt64", "time.Sleep"], unfollowed := true, recurses := true, named := ["example.com/hailstone/hailstone.errTimeRanOut", "example.com/hailstone/hailstone.layouts", "internal/strconv.uint64pow10", "math/bits.deBruijn32tab", "math/bits.deBruijn64tab"], ifaces := true, apart := false, laid := [("math/bits.deBruijn32tab", laid_math_bits_deBruijn32tab), ("math/bits.deBruijn64tab", laid_math_bits_deBruijn64tab), ("internal/strconv.uint64pow10", laid_internal_strconv_uint64pow10), ("example.com/hailstone/hailstone.errTimeRanOut", laid_example_com_hailstone_hailstone_errTimeRanOut), ("example.com/hailstone/hailstone.layouts", laid_example_com_hailstone_hailstone_layouts)] }
def LawS0907BTimeRanOutSaid : Prop := lawS0907BTimeRanOutRow.holds Ybad.pinned (OpenSpec.ofChange lawS0907BTimeRanOutSpec)

/-- ITS FALSE NEIGHBOUR: 'it returns false'. Refute it at one input. -/
def lawS0907BTimeRanOutWrong : ChangeSpec := { name := "lawS0907BTimeRanOut", vars := ["example.com/hailstone/hailstone.errTimeRanOut", "example.com/hailstone/hailstone.layouts"], fn := fun _ => fun
  | [d1, d2, d3, g1, g2] => { results := [.lit (.bool false)], args := [d1, d2, d3], vars := [g1, g2] }
  | _ => none }
def LawS0907BTimeRanOutWrongFalsely : Prop := lawS0907BTimeRanOutRow.holds Ybad.pinned (OpenSpec.ofChange lawS0907BTimeRanOutWrong)

end Rows
end Go.Proofs.YbulkrtkDoor
