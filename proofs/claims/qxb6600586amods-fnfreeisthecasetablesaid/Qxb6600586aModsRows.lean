/-
  No cell of these rows narrows 'for every input' (looked for: loops, veiled, ifaces, maps, wideKeys, modest, calm, conditions, laid).
  DERIVED. THE GIVEN ROWS OF THIS SEAT. 5 by the template 'for every input the law returns true; each argument reads behind the call as it read before'; 0 by the template 'total and deterministic' (their statements: Qxb6600586aModsTotals.lean).
  GIVEN WITH THE SEED: the statements are not yours to turn. If you find one false, say at which input.
  Laid BY PROGRAM, IN A SANDBOX (cutbox-rows.mjs): the forced cells as the released guide's own fill.sh prints them over the translation a7bfea13ba09874c… (all of the seat's roots in one cut). By AI agents, Wed Nov 11 2026. No macro, syntax, notation, axiom, sorry.
-/
import Derived.Test.Qxb6600586aModsChecked
import GoSem.Claim
import GoSem.ClaimJoined
import GoSem.ClaimMapViews
import Derived.JoinedTies
import Derived.KernelRfl
namespace Go.Proofs.Qxb6600586aMods
/- THE CELL 'sum', in the pinned program and in every row, IS THE sha256 OF THE DUMP (.gsa) THAT Qxb6600586aModsProg.lean LOADS. Nothing in Lean hashes anything: it is a label: what it is worth is what the hold of that sum in a sandbox is worth. -/
noncomputable def Trym.pinned : Pinned := { name := "qxb6600586amods", sum := "a7bfea13ba09874c825577c13c5f34bb4248cc19d8f381b47f5f8d54582af14d", checked := Trym.checked }
namespace Rows
def none {H : Type} : Left H := { results := [], args := [] }

/-- 'zzlaws_internal_store_space_b1.FnByOffsetIsTheStableSortByOffset': WHATEVER THE INPUT: true; the input reads as it did. -/
def fnByOffsetIsTheStableSortByOffsetSpec : ChangeSpec := { name := "fnByOffsetIsTheStableSortByOffset", fn := fun _ => fun
  | [d] => { results := [.lit (.bool true)], args := [d] }
  | _ => none }
def fnByOffsetIsTheStableSortByOffsetRow : OpenClaim := { program := "qxb6600586amods", sum := "a7bfea13ba09874c825577c13c5f34bb4248cc19d8f381b47f5f8d54582af14d", func := "example.com/onceblock/onceblock/zzlaws_internal_store_space_b1.FnByOffsetIsTheStableSortByOffset", spec := "fnByOffsetIsTheStableSortByOffset", make := .lifted ["publicsums"], apart := false }
def FnByOffsetIsTheStableSortByOffsetSaid : Prop := fnByOffsetIsTheStableSortByOffsetRow.holds Trym.pinned (OpenSpec.ofChange fnByOffsetIsTheStableSortByOffsetSpec)

/-- ITS FALSE NEIGHBOUR: 'it returns false'. Refute it at one input. -/
def fnByOffsetIsTheStableSortByOffsetWrong : ChangeSpec := { name := "fnByOffsetIsTheStableSortByOffset", fn := fun _ => fun
  | [d] => { results := [.lit (.bool false)], args := [d] }
  | _ => none }
def FnByOffsetIsTheStableSortByOffsetWrongFalsely : Prop := fnByOffsetIsTheStableSortByOffsetRow.holds Trym.pinned (OpenSpec.ofChange fnByOffsetIsTheStableSortByOffsetWrong)

/-- 'zzlaws_internal_store_space_b1.FnByOffsetTwiceIsOnce': WHATEVER THE INPUT: true; the input reads as it did. -/
def fnByOffsetTwiceIsOnceSpec : ChangeSpec := { name := "fnByOffsetTwiceIsOnce", fn := fun _ => fun
  | [d] => { results := [.lit (.bool true)], args := [d] }
  | _ => none }
def fnByOffsetTwiceIsOnceRow : OpenClaim := { program := "qxb6600586amods", sum := "a7bfea13ba09874c825577c13c5f34bb4248cc19d8f381b47f5f8d54582af14d", func := "example.com/onceblock/onceblock/zzlaws_internal_store_space_b1.FnByOffsetTwiceIsOnce", spec := "fnByOffsetTwiceIsOnce", make := .lifted ["publicsums"], apart := false }
def FnByOffsetTwiceIsOnceSaid : Prop := fnByOffsetTwiceIsOnceRow.holds Trym.pinned (OpenSpec.ofChange fnByOffsetTwiceIsOnceSpec)

/-- ITS FALSE NEIGHBOUR: 'it returns false'. Refute it at one input. -/
def fnByOffsetTwiceIsOnceWrong : ChangeSpec := { name := "fnByOffsetTwiceIsOnce", fn := fun _ => fun
  | [d] => { results := [.lit (.bool false)], args := [d] }
  | _ => none }
def FnByOffsetTwiceIsOnceWrongFalsely : Prop := fnByOffsetTwiceIsOnceRow.holds Trym.pinned (OpenSpec.ofChange fnByOffsetTwiceIsOnceWrong)

/-- 'zzlaws_internal_store_space_b1.FnByOffsetForgetsInputOrder': WHATEVER THE INPUT: true; the input reads as it did. -/
def fnByOffsetForgetsInputOrderSpec : ChangeSpec := { name := "fnByOffsetForgetsInputOrder", fn := fun _ => fun
  | [d] => { results := [.lit (.bool true)], args := [d] }
  | _ => none }
def fnByOffsetForgetsInputOrderRow : OpenClaim := { program := "qxb6600586amods", sum := "a7bfea13ba09874c825577c13c5f34bb4248cc19d8f381b47f5f8d54582af14d", func := "example.com/onceblock/onceblock/zzlaws_internal_store_space_b1.FnByOffsetForgetsInputOrder", spec := "fnByOffsetForgetsInputOrder", make := .lifted ["publicsums"], apart := false }
def FnByOffsetForgetsInputOrderSaid : Prop := fnByOffsetForgetsInputOrderRow.holds Trym.pinned (OpenSpec.ofChange fnByOffsetForgetsInputOrderSpec)

/-- ITS FALSE NEIGHBOUR: 'it returns false'. Refute it at one input. -/
def fnByOffsetForgetsInputOrderWrong : ChangeSpec := { name := "fnByOffsetForgetsInputOrder", fn := fun _ => fun
  | [d] => { results := [.lit (.bool false)], args := [d] }
  | _ => none }
def FnByOffsetForgetsInputOrderWrongFalsely : Prop := fnByOffsetForgetsInputOrderRow.holds Trym.pinned (OpenSpec.ofChange fnByOffsetForgetsInputOrderWrong)

/-- 'zzlaws_internal_store_space_b1.FnFreeIsTheCaseTable': WHATEVER THE INPUT: true; the input reads as it did. -/
def fnFreeIsTheCaseTableSpec : ChangeSpec := { name := "fnFreeIsTheCaseTable", fn := fun _ => fun
  | [d1, d2, d3] => { results := [.lit (.bool true)], args := [d1, d2, d3] }
  | _ => none }
def fnFreeIsTheCaseTableRow : OpenClaim := { program := "qxb6600586amods", sum := "a7bfea13ba09874c825577c13c5f34bb4248cc19d8f381b47f5f8d54582af14d", func := "example.com/onceblock/onceblock/zzlaws_internal_store_space_b1.FnFreeIsTheCaseTable", spec := "fnFreeIsTheCaseTable", make := .lifted ["publicsums"], apart := false }
def FnFreeIsTheCaseTableSaid : Prop := fnFreeIsTheCaseTableRow.holds Trym.pinned (OpenSpec.ofChange fnFreeIsTheCaseTableSpec)

/-- ITS FALSE NEIGHBOUR: 'it returns false'. Refute it at one input. -/
def fnFreeIsTheCaseTableWrong : ChangeSpec := { name := "fnFreeIsTheCaseTable", fn := fun _ => fun
  | [d1, d2, d3] => { results := [.lit (.bool false)], args := [d1, d2, d3] }
  | _ => none }
def FnFreeIsTheCaseTableWrongFalsely : Prop := fnFreeIsTheCaseTableRow.holds Trym.pinned (OpenSpec.ofChange fnFreeIsTheCaseTableWrong)

/-- 'zzlaws_internal_store_space_b1.FnFreeAccountsForEveryByte': WHATEVER THE INPUT: true; the input reads as it did. -/
def fnFreeAccountsForEveryByteSpec : ChangeSpec := { name := "fnFreeAccountsForEveryByte", fn := fun _ => fun
  | [d1, d2, d3] => { results := [.lit (.bool true)], args := [d1, d2, d3] }
  | _ => none }
def fnFreeAccountsForEveryByteRow : OpenClaim := { program := "qxb6600586amods", sum := "a7bfea13ba09874c825577c13c5f34bb4248cc19d8f381b47f5f8d54582af14d", func := "example.com/onceblock/onceblock/zzlaws_internal_store_space_b1.FnFreeAccountsForEveryByte", spec := "fnFreeAccountsForEveryByte", make := .lifted ["publicsums"], apart := false }
def FnFreeAccountsForEveryByteSaid : Prop := fnFreeAccountsForEveryByteRow.holds Trym.pinned (OpenSpec.ofChange fnFreeAccountsForEveryByteSpec)

/-- ITS FALSE NEIGHBOUR: 'it returns false'. Refute it at one input. -/
def fnFreeAccountsForEveryByteWrong : ChangeSpec := { name := "fnFreeAccountsForEveryByte", fn := fun _ => fun
  | [d1, d2, d3] => { results := [.lit (.bool false)], args := [d1, d2, d3] }
  | _ => none }
def FnFreeAccountsForEveryByteWrongFalsely : Prop := fnFreeAccountsForEveryByteRow.holds Trym.pinned (OpenSpec.ofChange fnFreeAccountsForEveryByteWrong)

end Rows
end Go.Proofs.Qxb6600586aMods
