/-
  No cell of these rows narrows 'for every input' (looked for: loops, veiled, ifaces, maps, wideKeys, modest, calm, conditions, laid).
  DERIVED. THE GIVEN ROWS OF THIS SEAT. 4 by the template 'for every input the law returns true; each argument reads behind the call as it read before'; 0 by the template 'total and deterministic' (their statements: Qxb6605703aTotals.lean).
  GIVEN WITH THE SEED: the statements are not yours to turn. If you find one false, say at which input.
  Laid BY PROGRAM, IN A SANDBOX (cutbox-rows.mjs): the forced cells as the released guide's own fill.sh prints them over the translation 7d243232311ecf7d… (all of the seat's roots in one cut). By AI agents, Wed Nov 11 2026. No macro, syntax, notation, axiom, sorry.
-/
import Derived.Test.Qxb6605703aChecked
import GoSem.Claim
import GoSem.ClaimJoined
import GoSem.ClaimMapViews
import Derived.JoinedTies
import Derived.KernelRfl
namespace Go.Proofs.Qxb6605703a
/- THE CELL 'sum', in the pinned program and in every row, IS THE sha256 OF THE DUMP (.gsa) THAT Qxb6605703aProg.lean LOADS. Nothing in Lean hashes anything: it is a label: what it is worth is what the hold of that sum in a sandbox is worth. -/
noncomputable def Try.pinned : Pinned := { name := "qxb6605703a", sum := "7d243232311ecf7df65b3394e471f5fa9b19120e3b61ddcaf29a324ab61379bd", checked := Try.checked }
namespace Rows
def none {H : Type} : Left H := { results := [], args := [] }

/-- 'zzlaws_root_b1.FnNameBlocksKeepReturnsEachName': WHATEVER THE INPUT: true; the input reads as it did. -/
def fnNameBlocksKeepReturnsEachNameSpec : ChangeSpec := { name := "fnNameBlocksKeepReturnsEachName", fn := fun _ => fun
  | [d] => { results := [.lit (.bool true)], args := [d] }
  | _ => none }
def fnNameBlocksKeepReturnsEachNameRow : OpenClaim := { program := "qxb6605703a", sum := "7d243232311ecf7df65b3394e471f5fa9b19120e3b61ddcaf29a324ab61379bd", func := "example.com/obligo/obligo/zzlaws_root_b1.FnNameBlocksKeepReturnsEachName", spec := "fnNameBlocksKeepReturnsEachName", inPlace := ["internal/abi.NoEscape", "internal/bytealg.MakeNoZero"], apart := false }
def FnNameBlocksKeepReturnsEachNameSaid : Prop := fnNameBlocksKeepReturnsEachNameRow.holds Try.pinned (OpenSpec.ofChange fnNameBlocksKeepReturnsEachNameSpec)

/-- ITS FALSE NEIGHBOUR: 'it returns false'. Refute it at one input. -/
def fnNameBlocksKeepReturnsEachNameWrong : ChangeSpec := { name := "fnNameBlocksKeepReturnsEachName", fn := fun _ => fun
  | [d] => { results := [.lit (.bool false)], args := [d] }
  | _ => none }
def FnNameBlocksKeepReturnsEachNameWrongFalsely : Prop := fnNameBlocksKeepReturnsEachNameRow.holds Try.pinned (OpenSpec.ofChange fnNameBlocksKeepReturnsEachNameWrong)

/-- 'zzlaws_root_b1.FnNameBlocksFillOneBlockInOrder': WHATEVER THE INPUT: true; the input reads as it did. -/
def fnNameBlocksFillOneBlockInOrderSpec : ChangeSpec := { name := "fnNameBlocksFillOneBlockInOrder", fn := fun _ => fun
  | [d] => { results := [.lit (.bool true)], args := [d] }
  | _ => none }
def fnNameBlocksFillOneBlockInOrderRow : OpenClaim := { program := "qxb6605703a", sum := "7d243232311ecf7df65b3394e471f5fa9b19120e3b61ddcaf29a324ab61379bd", func := "example.com/obligo/obligo/zzlaws_root_b1.FnNameBlocksFillOneBlockInOrder", spec := "fnNameBlocksFillOneBlockInOrder", inPlace := ["internal/abi.NoEscape", "internal/bytealg.MakeNoZero"], apart := false }
def FnNameBlocksFillOneBlockInOrderSaid : Prop := fnNameBlocksFillOneBlockInOrderRow.holds Try.pinned (OpenSpec.ofChange fnNameBlocksFillOneBlockInOrderSpec)

/-- ITS FALSE NEIGHBOUR: 'it returns false'. Refute it at one input. -/
def fnNameBlocksFillOneBlockInOrderWrong : ChangeSpec := { name := "fnNameBlocksFillOneBlockInOrder", fn := fun _ => fun
  | [d] => { results := [.lit (.bool false)], args := [d] }
  | _ => none }
def FnNameBlocksFillOneBlockInOrderWrongFalsely : Prop := fnNameBlocksFillOneBlockInOrderRow.holds Try.pinned (OpenSpec.ofChange fnNameBlocksFillOneBlockInOrderWrong)

/-- 'zzlaws_root_b1.FnPriorityRangesMatchModel': WHATEVER THE INPUT: true; the input reads as it did. -/
def fnPriorityRangesMatchModelSpec : ChangeSpec := { name := "fnPriorityRangesMatchModel", fn := fun _ => fun
  | [d] => { results := [.lit (.bool true)], args := [d] }
  | _ => none }
def fnPriorityRangesMatchModelRow : OpenClaim := { program := "qxb6605703a", sum := "7d243232311ecf7df65b3394e471f5fa9b19120e3b61ddcaf29a324ab61379bd", func := "example.com/obligo/obligo/zzlaws_root_b1.FnPriorityRangesMatchModel", spec := "fnPriorityRangesMatchModel", apart := false }
def FnPriorityRangesMatchModelSaid : Prop := fnPriorityRangesMatchModelRow.holds Try.pinned (OpenSpec.ofChange fnPriorityRangesMatchModelSpec)

/-- ITS FALSE NEIGHBOUR: 'it returns false'. Refute it at one input. -/
def fnPriorityRangesMatchModelWrong : ChangeSpec := { name := "fnPriorityRangesMatchModel", fn := fun _ => fun
  | [d] => { results := [.lit (.bool false)], args := [d] }
  | _ => none }
def FnPriorityRangesMatchModelWrongFalsely : Prop := fnPriorityRangesMatchModelRow.holds Try.pinned (OpenSpec.ofChange fnPriorityRangesMatchModelWrong)

/-- 'zzlaws_root_b1.FnPriorityRangesOrderFreeAndNumbered': WHATEVER THE INPUT: true; the input reads as it did. -/
def fnPriorityRangesOrderFreeAndNumberedSpec : ChangeSpec := { name := "fnPriorityRangesOrderFreeAndNumbered", fn := fun _ => fun
  | [d] => { results := [.lit (.bool true)], args := [d] }
  | _ => none }
def fnPriorityRangesOrderFreeAndNumberedRow : OpenClaim := { program := "qxb6605703a", sum := "7d243232311ecf7df65b3394e471f5fa9b19120e3b61ddcaf29a324ab61379bd", func := "example.com/obligo/obligo/zzlaws_root_b1.FnPriorityRangesOrderFreeAndNumbered", spec := "fnPriorityRangesOrderFreeAndNumbered", apart := false }
def FnPriorityRangesOrderFreeAndNumberedSaid : Prop := fnPriorityRangesOrderFreeAndNumberedRow.holds Try.pinned (OpenSpec.ofChange fnPriorityRangesOrderFreeAndNumberedSpec)

/-- ITS FALSE NEIGHBOUR: 'it returns false'. Refute it at one input. -/
def fnPriorityRangesOrderFreeAndNumberedWrong : ChangeSpec := { name := "fnPriorityRangesOrderFreeAndNumbered", fn := fun _ => fun
  | [d] => { results := [.lit (.bool false)], args := [d] }
  | _ => none }
def FnPriorityRangesOrderFreeAndNumberedWrongFalsely : Prop := fnPriorityRangesOrderFreeAndNumberedRow.holds Try.pinned (OpenSpec.ofChange fnPriorityRangesOrderFreeAndNumberedWrong)

end Rows
end Go.Proofs.Qxb6605703a
