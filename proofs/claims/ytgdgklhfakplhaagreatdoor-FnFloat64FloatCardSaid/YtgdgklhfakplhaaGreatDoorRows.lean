/-
  NARROWER THAN 'FOR EVERY INPUT', by the rows' own cells (each row's printed sentence says how): FnFloat64Float: laid · FnFloat32Float: laid · FnFloatBack: laid.
  DERIVED. THE GIVEN ROWS OF THIS SEAT. 3 by the template 'for every input the law returns true; each argument reads behind the call as it read before'; 0 by the template 'total and deterministic' (their statements: YtgdgklhfakplhaaGreatDoorTotals.lean).
  GIVEN WITH THE SEED: the statements are not yours to turn. If you find one false, say at which input.
  Laid BY PROGRAM, IN A SANDBOX (cutbox-rows.mjs): the forced cells as the released guide's own fill.sh prints them over the translation 0939012735ce4cb4… (all of the seat's roots in one cut). By AI agents, Wed Nov 11 2026. No macro, syntax, notation, axiom, sorry.
-/
import Derived.Test.YtgdgklhfakplhaaGreatDoorChecked
import GoSem.Claim
import GoSem.ClaimJoined
import GoSem.ClaimMapViews
import Derived.JoinedTies
import Derived.KernelRfl
namespace Go.Proofs.YtgdgklhfakplhaaGreatDoor
/- THE CELL 'sum', in the pinned program and in every row, IS THE sha256 OF THE DUMP (.gsa) THAT YtgdgklhfakplhaaGreatDoorProg.lean LOADS. Nothing in Lean hashes anything: it is a label: what it is worth is what the hold of that sum in a sandbox is worth. -/
noncomputable def Tryz.pinned : Pinned := { name := "ytgdgklhfakplhaagreatdoor", sum := "0939012735ce4cb4cd68344e1e5b19d430daff97b53b346aa26c9c305747d382", checked := Tryz.checked }
namespace Rows
def none {H : Type} : Left H := { results := [], args := [] }

/- WHAT THE LISTED PACKAGE-LEVEL VARIABLES READ AS WHEN THE CALL BEGINS. Each datum BY PROGRAM (the guide's laid-datum.mjs) off the statement by which the dump's own 'gosem.cut.vars' lays the variable. In a bare row this is a premise. The card (YtgdgklhfakplhaaGreatDoorCards.lean) ties it to the program's text. -/
def laid_loop_example_pub_g03237_pub_bigall_divRecursiveThreshold {H : Type} : DataW H := .lit (.int .i64 40)
def laid_loop_example_pub_g03237_pub_bigall_karatsubaThreshold {H : Type} : DataW H := .lit (.int .i64 40)
def laid_loop_example_pub_g03237_pub_bigall_basicSqrThreshold {H : Type} : DataW H := .lit (.int .i64 12)
def laid_loop_example_pub_g03237_pub_bigall_karatsubaSqrThreshold {H : Type} : DataW H := .lit (.int .i64 80)

/-- 'laws.FnFloat64Float': WHATEVER THE INPUT: true; the input reads as it did. -/
def fnFloat64FloatSpec : ChangeSpec := { name := "fnFloat64Float", vars := ["loop.example/pub-g03237/pub/bigall.divRecursiveThreshold", "loop.example/pub-g03237/pub/bigall.karatsubaThreshold", "loop.example/pub-g03237/pub/bigall.basicSqrThreshold", "loop.example/pub-g03237/pub/bigall.karatsubaSqrThreshold"], fn := fun _ => fun
  | [d, g1, g2, g3, g4] => { results := [.lit (.bool true)], args := [d], vars := [g1, g2, g3, g4] }
  | _ => none }
def fnFloat64FloatRow : OpenClaim := { program := "ytgdgklhfakplhaagreatdoor", sum := "0939012735ce4cb4cd68344e1e5b19d430daff97b53b346aa26c9c305747d382", func := "loop.example/pub-g03237/laws.FnFloat64Float", spec := "fnFloat64Float", inPlace := ["math/bits.Add64", "math/bits.Sub64", "math.Float64frombits", "math.Float64bits"], recurses := true, named := ["loop.example/pub-g03237/pub/bigall.divRecursiveThreshold", "loop.example/pub-g03237/pub/bigall.karatsubaThreshold", "loop.example/pub-g03237/pub/bigall.basicSqrThreshold", "loop.example/pub-g03237/pub/bigall.karatsubaSqrThreshold"], apart := false, laid := [("loop.example/pub-g03237/pub/bigall.divRecursiveThreshold", laid_loop_example_pub_g03237_pub_bigall_divRecursiveThreshold), ("loop.example/pub-g03237/pub/bigall.karatsubaThreshold", laid_loop_example_pub_g03237_pub_bigall_karatsubaThreshold), ("loop.example/pub-g03237/pub/bigall.basicSqrThreshold", laid_loop_example_pub_g03237_pub_bigall_basicSqrThreshold), ("loop.example/pub-g03237/pub/bigall.karatsubaSqrThreshold", laid_loop_example_pub_g03237_pub_bigall_karatsubaSqrThreshold)] }
def FnFloat64FloatSaid : Prop := fnFloat64FloatRow.holds Tryz.pinned (OpenSpec.ofChange fnFloat64FloatSpec)

/-- ITS FALSE NEIGHBOUR: 'it returns false'. Refute it at one input. -/
def fnFloat64FloatWrong : ChangeSpec := { name := "fnFloat64Float", vars := ["loop.example/pub-g03237/pub/bigall.divRecursiveThreshold", "loop.example/pub-g03237/pub/bigall.karatsubaThreshold", "loop.example/pub-g03237/pub/bigall.basicSqrThreshold", "loop.example/pub-g03237/pub/bigall.karatsubaSqrThreshold"], fn := fun _ => fun
  | [d, g1, g2, g3, g4] => { results := [.lit (.bool false)], args := [d], vars := [g1, g2, g3, g4] }
  | _ => none }
def FnFloat64FloatWrongFalsely : Prop := fnFloat64FloatRow.holds Tryz.pinned (OpenSpec.ofChange fnFloat64FloatWrong)

/-- 'laws.FnFloat32Float': WHATEVER THE INPUT: true; the input reads as it did. -/
def fnFloat32FloatSpec : ChangeSpec := { name := "fnFloat32Float", vars := ["loop.example/pub-g03237/pub/bigall.divRecursiveThreshold", "loop.example/pub-g03237/pub/bigall.karatsubaThreshold", "loop.example/pub-g03237/pub/bigall.basicSqrThreshold", "loop.example/pub-g03237/pub/bigall.karatsubaSqrThreshold"], fn := fun _ => fun
  | [d, g1, g2, g3, g4] => { results := [.lit (.bool true)], args := [d], vars := [g1, g2, g3, g4] }
  | _ => none }
def fnFloat32FloatRow : OpenClaim := { program := "ytgdgklhfakplhaagreatdoor", sum := "0939012735ce4cb4cd68344e1e5b19d430daff97b53b346aa26c9c305747d382", func := "loop.example/pub-g03237/laws.FnFloat32Float", spec := "fnFloat32Float", inPlace := ["math/bits.Add64", "math/bits.Sub64", "math.Float64frombits", "math.Float32frombits", "math.Float64bits", "math.Float32bits"], recurses := true, named := ["loop.example/pub-g03237/pub/bigall.divRecursiveThreshold", "loop.example/pub-g03237/pub/bigall.karatsubaThreshold", "loop.example/pub-g03237/pub/bigall.basicSqrThreshold", "loop.example/pub-g03237/pub/bigall.karatsubaSqrThreshold"], apart := false, laid := [("loop.example/pub-g03237/pub/bigall.divRecursiveThreshold", laid_loop_example_pub_g03237_pub_bigall_divRecursiveThreshold), ("loop.example/pub-g03237/pub/bigall.karatsubaThreshold", laid_loop_example_pub_g03237_pub_bigall_karatsubaThreshold), ("loop.example/pub-g03237/pub/bigall.basicSqrThreshold", laid_loop_example_pub_g03237_pub_bigall_basicSqrThreshold), ("loop.example/pub-g03237/pub/bigall.karatsubaSqrThreshold", laid_loop_example_pub_g03237_pub_bigall_karatsubaSqrThreshold)] }
def FnFloat32FloatSaid : Prop := fnFloat32FloatRow.holds Tryz.pinned (OpenSpec.ofChange fnFloat32FloatSpec)

/-- ITS FALSE NEIGHBOUR: 'it returns false'. Refute it at one input. -/
def fnFloat32FloatWrong : ChangeSpec := { name := "fnFloat32Float", vars := ["loop.example/pub-g03237/pub/bigall.divRecursiveThreshold", "loop.example/pub-g03237/pub/bigall.karatsubaThreshold", "loop.example/pub-g03237/pub/bigall.basicSqrThreshold", "loop.example/pub-g03237/pub/bigall.karatsubaSqrThreshold"], fn := fun _ => fun
  | [d, g1, g2, g3, g4] => { results := [.lit (.bool false)], args := [d], vars := [g1, g2, g3, g4] }
  | _ => none }
def FnFloat32FloatWrongFalsely : Prop := fnFloat32FloatRow.holds Tryz.pinned (OpenSpec.ofChange fnFloat32FloatWrong)

/-- 'laws.FnFloatBack': WHATEVER THE INPUT: true; the input reads as it did. -/
def fnFloatBackSpec : ChangeSpec := { name := "fnFloatBack", vars := ["loop.example/pub-g03237/pub/bigall.divRecursiveThreshold", "loop.example/pub-g03237/pub/bigall.karatsubaThreshold", "loop.example/pub-g03237/pub/bigall.basicSqrThreshold", "loop.example/pub-g03237/pub/bigall.karatsubaSqrThreshold"], fn := fun _ => fun
  | [d, g1, g2, g3, g4] => { results := [.lit (.bool true)], args := [d], vars := [g1, g2, g3, g4] }
  | _ => none }
def fnFloatBackRow : OpenClaim := { program := "ytgdgklhfakplhaagreatdoor", sum := "0939012735ce4cb4cd68344e1e5b19d430daff97b53b346aa26c9c305747d382", func := "loop.example/pub-g03237/laws.FnFloatBack", spec := "fnFloatBack", inPlace := ["math.Float64frombits", "math.Float64bits", "math/bits.Add64", "math/bits.Sub64", "(*internal/sync.Mutex).Lock", "internal/race.Disable", "sync/atomic.CompareAndSwapInt32", "internal/race.Enable", "internal/race.Acquire", "(*internal/sync.Mutex).lockSlow", "internal/sync.runtime_canSpin", "internal/sync.runtime_doSpin", "internal/sync.throw", "internal/sync.runtime_nanotime", "internal/sync.runtime_SemacquireMutex", "sync/atomic.AddInt32", "(*internal/sync.Mutex).Unlock", "internal/race.ReleaseMerge", "(*internal/sync.Mutex).unlockSlow", "internal/sync.fatal", "internal/sync.runtime_Semrelease", "internal/abi.NoEscape", "internal/bytealg.MakeNoZero"], unfollowed := true, recurses := true, named := ["loop.example/pub-g03237/pub/bigall.divRecursiveThreshold", "loop.example/pub-g03237/pub/bigall.karatsubaThreshold", "loop.example/pub-g03237/pub/bigall.basicSqrThreshold", "loop.example/pub-g03237/pub/bigall.karatsubaSqrThreshold"], apart := false, laid := [("loop.example/pub-g03237/pub/bigall.divRecursiveThreshold", laid_loop_example_pub_g03237_pub_bigall_divRecursiveThreshold), ("loop.example/pub-g03237/pub/bigall.karatsubaThreshold", laid_loop_example_pub_g03237_pub_bigall_karatsubaThreshold), ("loop.example/pub-g03237/pub/bigall.basicSqrThreshold", laid_loop_example_pub_g03237_pub_bigall_basicSqrThreshold), ("loop.example/pub-g03237/pub/bigall.karatsubaSqrThreshold", laid_loop_example_pub_g03237_pub_bigall_karatsubaSqrThreshold)] }
def FnFloatBackSaid : Prop := fnFloatBackRow.holds Tryz.pinned (OpenSpec.ofChange fnFloatBackSpec)

/-- ITS FALSE NEIGHBOUR: 'it returns false'. Refute it at one input. -/
def fnFloatBackWrong : ChangeSpec := { name := "fnFloatBack", vars := ["loop.example/pub-g03237/pub/bigall.divRecursiveThreshold", "loop.example/pub-g03237/pub/bigall.karatsubaThreshold", "loop.example/pub-g03237/pub/bigall.basicSqrThreshold", "loop.example/pub-g03237/pub/bigall.karatsubaSqrThreshold"], fn := fun _ => fun
  | [d, g1, g2, g3, g4] => { results := [.lit (.bool false)], args := [d], vars := [g1, g2, g3, g4] }
  | _ => none }
def FnFloatBackWrongFalsely : Prop := fnFloatBackRow.holds Tryz.pinned (OpenSpec.ofChange fnFloatBackWrong)

/- THE SECOND FORM. 'bulk': how many values and letters a reading holds, each counted each time it is reached (what is shared counts as often as it is met; a slice's spare places count too). A statement '..UptoSaid' is the law's where the arguments, and the package variables that the reading takes, are together of bulk at most 1048576: NARROWER than '..Said'. Prove '..Said' where nothing that the law and all that it calls make is longer than what came in: it says more and counts as full. Else prove '..UptoSaid'. A law counts once. -/
mutual
def uptoBulk {H : Type} : DataW H → Nat
  | .lit (.string bytes) => bytes.length + 1
  | .lit _ => 1
  | .nil => 1
  | .ptr d => uptoBulk d + 1
  | .slice elems spare => uptoBulkAll elems + uptoBulkAll spare + 1
  | .agg parts => uptoBulkAll parts + 1
  | .iface _ d => uptoBulk d + 1
  | .map entries => uptoBulkEntries entries + 1
  | .held _ => 1
def uptoBulkAll {H : Type} : List (DataW H) → Nat
  | [] => 0
  | d :: r => uptoBulk d + uptoBulkAll r
def uptoBulkEntries {H : Type} : List (Lit × DataW H) → Nat
  | [] => 0
  | x :: r => uptoBulkEntry x + uptoBulkEntries r
def uptoBulkEntry {H : Type} : Lit × DataW H → Nat
  | (.string bytes, d) => bytes.length + uptoBulk d + 1
  | (_, d) => uptoBulk d + 1
 end
def uptoSmall : (H : Type) → List (DataW H) → Bool := fun _ ds => decide (uptoBulkAll ds ≤ 1048576)
def OpenSpec.upto (s : _root_.Go.ChangeSpec) : _root_.Go.OpenSpec := { _root_.Go.OpenSpec.ofChange s with cond := some uptoSmall }

/-- 'laws.FnFloat64Float', WHERE WHAT IT READS IS OF BULK AT MOST 1048576: true; the input reads as it did. -/
def fnFloat64FloatUptoRow : OpenClaim := { program := "ytgdgklhfakplhaagreatdoor", sum := "0939012735ce4cb4cd68344e1e5b19d430daff97b53b346aa26c9c305747d382", func := "loop.example/pub-g03237/laws.FnFloat64Float", spec := "fnFloat64Float", inPlace := ["math/bits.Add64", "math/bits.Sub64", "math.Float64frombits", "math.Float64bits"], recurses := true, named := ["loop.example/pub-g03237/pub/bigall.divRecursiveThreshold", "loop.example/pub-g03237/pub/bigall.karatsubaThreshold", "loop.example/pub-g03237/pub/bigall.basicSqrThreshold", "loop.example/pub-g03237/pub/bigall.karatsubaSqrThreshold"], apart := false, laid := [("loop.example/pub-g03237/pub/bigall.divRecursiveThreshold", laid_loop_example_pub_g03237_pub_bigall_divRecursiveThreshold), ("loop.example/pub-g03237/pub/bigall.karatsubaThreshold", laid_loop_example_pub_g03237_pub_bigall_karatsubaThreshold), ("loop.example/pub-g03237/pub/bigall.basicSqrThreshold", laid_loop_example_pub_g03237_pub_bigall_basicSqrThreshold), ("loop.example/pub-g03237/pub/bigall.karatsubaSqrThreshold", laid_loop_example_pub_g03237_pub_bigall_karatsubaSqrThreshold)], narrowed := true }
def FnFloat64FloatUptoSaid : Prop := fnFloat64FloatUptoRow.holds Tryz.pinned (OpenSpec.upto fnFloat64FloatSpec)

/-- 'laws.FnFloat32Float', WHERE WHAT IT READS IS OF BULK AT MOST 1048576: true; the input reads as it did. -/
def fnFloat32FloatUptoRow : OpenClaim := { program := "ytgdgklhfakplhaagreatdoor", sum := "0939012735ce4cb4cd68344e1e5b19d430daff97b53b346aa26c9c305747d382", func := "loop.example/pub-g03237/laws.FnFloat32Float", spec := "fnFloat32Float", inPlace := ["math/bits.Add64", "math/bits.Sub64", "math.Float64frombits", "math.Float32frombits", "math.Float64bits", "math.Float32bits"], recurses := true, named := ["loop.example/pub-g03237/pub/bigall.divRecursiveThreshold", "loop.example/pub-g03237/pub/bigall.karatsubaThreshold", "loop.example/pub-g03237/pub/bigall.basicSqrThreshold", "loop.example/pub-g03237/pub/bigall.karatsubaSqrThreshold"], apart := false, laid := [("loop.example/pub-g03237/pub/bigall.divRecursiveThreshold", laid_loop_example_pub_g03237_pub_bigall_divRecursiveThreshold), ("loop.example/pub-g03237/pub/bigall.karatsubaThreshold", laid_loop_example_pub_g03237_pub_bigall_karatsubaThreshold), ("loop.example/pub-g03237/pub/bigall.basicSqrThreshold", laid_loop_example_pub_g03237_pub_bigall_basicSqrThreshold), ("loop.example/pub-g03237/pub/bigall.karatsubaSqrThreshold", laid_loop_example_pub_g03237_pub_bigall_karatsubaSqrThreshold)], narrowed := true }
def FnFloat32FloatUptoSaid : Prop := fnFloat32FloatUptoRow.holds Tryz.pinned (OpenSpec.upto fnFloat32FloatSpec)

/-- 'laws.FnFloatBack', WHERE WHAT IT READS IS OF BULK AT MOST 1048576: true; the input reads as it did. -/
def fnFloatBackUptoRow : OpenClaim := { program := "ytgdgklhfakplhaagreatdoor", sum := "0939012735ce4cb4cd68344e1e5b19d430daff97b53b346aa26c9c305747d382", func := "loop.example/pub-g03237/laws.FnFloatBack", spec := "fnFloatBack", inPlace := ["math.Float64frombits", "math.Float64bits", "math/bits.Add64", "math/bits.Sub64", "(*internal/sync.Mutex).Lock", "internal/race.Disable", "sync/atomic.CompareAndSwapInt32", "internal/race.Enable", "internal/race.Acquire", "(*internal/sync.Mutex).lockSlow", "internal/sync.runtime_canSpin", "internal/sync.runtime_doSpin", "internal/sync.throw", "internal/sync.runtime_nanotime", "internal/sync.runtime_SemacquireMutex", "sync/atomic.AddInt32", "(*internal/sync.Mutex).Unlock", "internal/race.ReleaseMerge", "(*internal/sync.Mutex).unlockSlow", "internal/sync.fatal", "internal/sync.runtime_Semrelease", "internal/abi.NoEscape", "internal/bytealg.MakeNoZero"], unfollowed := true, recurses := true, named := ["loop.example/pub-g03237/pub/bigall.divRecursiveThreshold", "loop.example/pub-g03237/pub/bigall.karatsubaThreshold", "loop.example/pub-g03237/pub/bigall.basicSqrThreshold", "loop.example/pub-g03237/pub/bigall.karatsubaSqrThreshold"], apart := false, laid := [("loop.example/pub-g03237/pub/bigall.divRecursiveThreshold", laid_loop_example_pub_g03237_pub_bigall_divRecursiveThreshold), ("loop.example/pub-g03237/pub/bigall.karatsubaThreshold", laid_loop_example_pub_g03237_pub_bigall_karatsubaThreshold), ("loop.example/pub-g03237/pub/bigall.basicSqrThreshold", laid_loop_example_pub_g03237_pub_bigall_basicSqrThreshold), ("loop.example/pub-g03237/pub/bigall.karatsubaSqrThreshold", laid_loop_example_pub_g03237_pub_bigall_karatsubaSqrThreshold)], narrowed := true }
def FnFloatBackUptoSaid : Prop := fnFloatBackUptoRow.holds Tryz.pinned (OpenSpec.upto fnFloatBackSpec)

end Rows
end Go.Proofs.YtgdgklhfakplhaaGreatDoor
