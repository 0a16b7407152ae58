/-
  No cell of these rows narrows 'for every input' (looked for: loops, veiled, ifaces, maps, wideKeys, modest, calm, conditions, laid).
  DERIVED. THE GIVEN ROWS OF THIS SEAT. 5 by the template 'for every input the law returns true; each argument reads behind the call as it read before'; 0 by the template 'total and deterministic' (their statements: Qxb6616965aTotals.lean).
  GIVEN WITH THE SEED: the statements are not yours to turn. If you find one false, say at which input.
  Laid BY PROGRAM, IN A SANDBOX (cutbox-rows.mjs): the forced cells as the released guide's own fill.sh prints them over the translation f06070ffd0bbe206… (all of the seat's roots in one cut). By AI agents, Wed Nov 11 2026. No macro, syntax, notation, axiom, sorry.
-/
import Derived.Test.Qxb6616965aChecked
import GoSem.Claim
import GoSem.ClaimJoined
import GoSem.ClaimMapViews
import Derived.JoinedTies
import Derived.KernelRfl
namespace Go.Proofs.Qxb6616965a
/- THE CELL 'sum', in the pinned program and in every row, IS THE sha256 OF THE DUMP (.gsa) THAT Qxb6616965aProg.lean LOADS. Nothing in Lean hashes anything: it is a label: what it is worth is what the hold of that sum in a sandbox is worth. -/
noncomputable def Try.pinned : Pinned := { name := "qxb6616965a", sum := "f06070ffd0bbe206f78c48351f500520c3fd792880fdcdb1b754708d8826f492", checked := Try.checked }
namespace Rows
def none {H : Type} : Left H := { results := [], args := [] }

/-- 'zzlaws_root_b1.FnMiddleShiftedAndBalanced': WHATEVER THE INPUT: true; the input reads as it did. -/
def fnMiddleShiftedAndBalancedSpec : ChangeSpec := { name := "fnMiddleShiftedAndBalanced", fn := fun _ => fun
  | [d1, d2, d3] => { results := [.lit (.bool true)], args := [d1, d2, d3] }
  | _ => none }
def fnMiddleShiftedAndBalancedRow : OpenClaim := { program := "qxb6616965a", sum := "f06070ffd0bbe206f78c48351f500520c3fd792880fdcdb1b754708d8826f492", func := "example.com/quiet-scheduler/quiet-scheduler/zzlaws_root_b1.FnMiddleShiftedAndBalanced", spec := "fnMiddleShiftedAndBalanced", apart := false }
def FnMiddleShiftedAndBalancedSaid : Prop := fnMiddleShiftedAndBalancedRow.holds Try.pinned (OpenSpec.ofChange fnMiddleShiftedAndBalancedSpec)

/-- ITS FALSE NEIGHBOUR: 'it returns false'. Refute it at one input. -/
def fnMiddleShiftedAndBalancedWrong : ChangeSpec := { name := "fnMiddleShiftedAndBalanced", fn := fun _ => fun
  | [d1, d2, d3] => { results := [.lit (.bool false)], args := [d1, d2, d3] }
  | _ => none }
def FnMiddleShiftedAndBalancedWrongFalsely : Prop := fnMiddleShiftedAndBalancedRow.holds Try.pinned (OpenSpec.ofChange fnMiddleShiftedAndBalancedWrong)

/-- 'zzlaws_root_b1.FnMiddleOneMoreAtTheTop': WHATEVER THE INPUT: true; the input reads as it did. -/
def fnMiddleOneMoreAtTheTopSpec : ChangeSpec := { name := "fnMiddleOneMoreAtTheTop", fn := fun _ => fun
  | [d1, d2] => { results := [.lit (.bool true)], args := [d1, d2] }
  | _ => none }
def fnMiddleOneMoreAtTheTopRow : OpenClaim := { program := "qxb6616965a", sum := "f06070ffd0bbe206f78c48351f500520c3fd792880fdcdb1b754708d8826f492", func := "example.com/quiet-scheduler/quiet-scheduler/zzlaws_root_b1.FnMiddleOneMoreAtTheTop", spec := "fnMiddleOneMoreAtTheTop", apart := false }
def FnMiddleOneMoreAtTheTopSaid : Prop := fnMiddleOneMoreAtTheTopRow.holds Try.pinned (OpenSpec.ofChange fnMiddleOneMoreAtTheTopSpec)

/-- ITS FALSE NEIGHBOUR: 'it returns false'. Refute it at one input. -/
def fnMiddleOneMoreAtTheTopWrong : ChangeSpec := { name := "fnMiddleOneMoreAtTheTop", fn := fun _ => fun
  | [d1, d2] => { results := [.lit (.bool false)], args := [d1, d2] }
  | _ => none }
def FnMiddleOneMoreAtTheTopWrongFalsely : Prop := fnMiddleOneMoreAtTheTopRow.holds Try.pinned (OpenSpec.ofChange fnMiddleOneMoreAtTheTopWrong)

/-- 'zzlaws_root_b1.FnWorkerCreditConservation': WHATEVER THE INPUT: true; the input reads as it did. -/
def fnWorkerCreditConservationSpec : ChangeSpec := { name := "fnWorkerCreditConservation", fn := fun _ => fun
  | [d1, d2, d3, d4, d5] => { results := [.lit (.bool true)], args := [d1, d2, d3, d4, d5] }
  | _ => none }
def fnWorkerCreditConservationRow : OpenClaim := { program := "qxb6616965a", sum := "f06070ffd0bbe206f78c48351f500520c3fd792880fdcdb1b754708d8826f492", func := "example.com/quiet-scheduler/quiet-scheduler/zzlaws_root_b1.FnWorkerCreditConservation", spec := "fnWorkerCreditConservation", inPlace := ["sync/atomic.StoreUint64", "sync/atomic.LoadUint64", "sync/atomic.AddUint64"], apart := false }
def FnWorkerCreditConservationSaid : Prop := fnWorkerCreditConservationRow.holds Try.pinned (OpenSpec.ofChange fnWorkerCreditConservationSpec)

/-- ITS FALSE NEIGHBOUR: 'it returns false'. Refute it at one input. -/
def fnWorkerCreditConservationWrong : ChangeSpec := { name := "fnWorkerCreditConservation", fn := fun _ => fun
  | [d1, d2, d3, d4, d5] => { results := [.lit (.bool false)], args := [d1, d2, d3, d4, d5] }
  | _ => none }
def FnWorkerCreditConservationWrongFalsely : Prop := fnWorkerCreditConservationRow.holds Try.pinned (OpenSpec.ofChange fnWorkerCreditConservationWrong)

/-- 'zzlaws_root_b1.FnWorkerChargeBatches': WHATEVER THE INPUT: true; the input reads as it did. -/
def fnWorkerChargeBatchesSpec : ChangeSpec := { name := "fnWorkerChargeBatches", fn := fun _ => fun
  | [d1, d2, d3] => { results := [.lit (.bool true)], args := [d1, d2, d3] }
  | _ => none }
def fnWorkerChargeBatchesRow : OpenClaim := { program := "qxb6616965a", sum := "f06070ffd0bbe206f78c48351f500520c3fd792880fdcdb1b754708d8826f492", func := "example.com/quiet-scheduler/quiet-scheduler/zzlaws_root_b1.FnWorkerChargeBatches", spec := "fnWorkerChargeBatches", inPlace := ["sync/atomic.StoreUint64", "sync/atomic.AddUint64", "sync/atomic.LoadUint64"], apart := false }
def FnWorkerChargeBatchesSaid : Prop := fnWorkerChargeBatchesRow.holds Try.pinned (OpenSpec.ofChange fnWorkerChargeBatchesSpec)

/-- ITS FALSE NEIGHBOUR: 'it returns false'. Refute it at one input. -/
def fnWorkerChargeBatchesWrong : ChangeSpec := { name := "fnWorkerChargeBatches", fn := fun _ => fun
  | [d1, d2, d3] => { results := [.lit (.bool false)], args := [d1, d2, d3] }
  | _ => none }
def FnWorkerChargeBatchesWrongFalsely : Prop := fnWorkerChargeBatchesRow.holds Try.pinned (OpenSpec.ofChange fnWorkerChargeBatchesWrong)

/-- 'zzlaws_root_b1.FnWorkerPublishesRan': WHATEVER THE INPUT: true; the input reads as it did. -/
def fnWorkerPublishesRanSpec : ChangeSpec := { name := "fnWorkerPublishesRan", fn := fun _ => fun
  | [d1, d2, d3, d4, d5] => { results := [.lit (.bool true)], args := [d1, d2, d3, d4, d5] }
  | _ => none }
def fnWorkerPublishesRanRow : OpenClaim := { program := "qxb6616965a", sum := "f06070ffd0bbe206f78c48351f500520c3fd792880fdcdb1b754708d8826f492", func := "example.com/quiet-scheduler/quiet-scheduler/zzlaws_root_b1.FnWorkerPublishesRan", spec := "fnWorkerPublishesRan", inPlace := ["sync/atomic.StoreUint64", "sync/atomic.AddUint64", "sync/atomic.LoadUint64"], apart := false }
def FnWorkerPublishesRanSaid : Prop := fnWorkerPublishesRanRow.holds Try.pinned (OpenSpec.ofChange fnWorkerPublishesRanSpec)

/-- ITS FALSE NEIGHBOUR: 'it returns false'. Refute it at one input. -/
def fnWorkerPublishesRanWrong : ChangeSpec := { name := "fnWorkerPublishesRan", fn := fun _ => fun
  | [d1, d2, d3, d4, d5] => { results := [.lit (.bool false)], args := [d1, d2, d3, d4, d5] }
  | _ => none }
def FnWorkerPublishesRanWrongFalsely : Prop := fnWorkerPublishesRanRow.holds Try.pinned (OpenSpec.ofChange fnWorkerPublishesRanWrong)

end Rows
end Go.Proofs.Qxb6616965a
