/-
  No cell of these rows narrows 'for every input' (looked for: loops, veiled, ifaces, maps, wideKeys, modest, calm, conditions, laid).
  DERIVED. THE GIVEN ROWS OF THIS SEAT. 6 by the template 'for every input the law returns true; each argument reads behind the call as it read before'; 0 by the template 'total and deterministic' (their statements: YbulkbaswTotals.lean).
  GIVEN WITH THE SEED: the statements are not yours to turn. If you find one false, say at which input.
  Laid BY PROGRAM, IN A SANDBOX (cutbox-rows.mjs): the forced cells as the released guide's own fill.sh prints them over the translation 397206368788a19a… (all of the seat's roots in one cut). By AI agents, Wed Nov 11 2026. No macro, syntax, notation, axiom, sorry.
-/
import Derived.Test.YbulkbaswChecked
import GoSem.Claim
import GoSem.ClaimJoined
import GoSem.ClaimMapViews
import Derived.JoinedTies
import Derived.KernelRfl
namespace Go.Proofs.Ybulkbasw
/- THE CELL 'sum', in the pinned program and in every row, IS THE sha256 OF THE DUMP (.gsa) THAT YbulkbaswProg.lean LOADS. Nothing in Lean hashes anything: it is a label: what it is worth is what the hold of that sum in a sandbox is worth. -/
noncomputable def Yba.pinned : Pinned := { name := "ybulkbasw", sum := "397206368788a19a5826e6e8e749d8623dfc23b3fd81872bfb0997783e84aa0a", checked := Yba.checked }
namespace Rows
def none {H : Type} : Left H := { results := [], args := [] }

/-- 'labelfold.LawS2596AExact': WHATEVER THE INPUT: true; the input reads as it did. -/
def lawS2596AExactSpec : ChangeSpec := { name := "lawS2596AExact", fn := fun _ => fun
  | [d] => { results := [.lit (.bool true)], args := [d] }
  | _ => none }
def lawS2596AExactRow : OpenClaim := { program := "ybulkbasw", sum := "397206368788a19a5826e6e8e749d8623dfc23b3fd81872bfb0997783e84aa0a", func := "example.com/labelfold/labelfold.LawS2596AExact", spec := "lawS2596AExact", apart := false }
def LawS2596AExactSaid : Prop := lawS2596AExactRow.holds Yba.pinned (OpenSpec.ofChange lawS2596AExactSpec)

/-- ITS FALSE NEIGHBOUR: 'it returns false'. Refute it at one input. -/
def lawS2596AExactWrong : ChangeSpec := { name := "lawS2596AExact", fn := fun _ => fun
  | [d] => { results := [.lit (.bool false)], args := [d] }
  | _ => none }
def LawS2596AExactWrongFalsely : Prop := lawS2596AExactRow.holds Yba.pinned (OpenSpec.ofChange lawS2596AExactWrong)

/-- 'labelfold.LawS2596APrefix': WHATEVER THE INPUT: true; the input reads as it did. -/
def lawS2596APrefixSpec : ChangeSpec := { name := "lawS2596APrefix", fn := fun _ => fun
  | [d1, d2] => { results := [.lit (.bool true)], args := [d1, d2] }
  | _ => none }
def lawS2596APrefixRow : OpenClaim := { program := "ybulkbasw", sum := "397206368788a19a5826e6e8e749d8623dfc23b3fd81872bfb0997783e84aa0a", func := "example.com/labelfold/labelfold.LawS2596APrefix", spec := "lawS2596APrefix", named := ["encoding/binary.LittleEndian"], apart := false }
def LawS2596APrefixSaid : Prop := lawS2596APrefixRow.holds Yba.pinned (OpenSpec.ofChange lawS2596APrefixSpec)

/-- ITS FALSE NEIGHBOUR: 'it returns false'. Refute it at one input. -/
def lawS2596APrefixWrong : ChangeSpec := { name := "lawS2596APrefix", fn := fun _ => fun
  | [d1, d2] => { results := [.lit (.bool false)], args := [d1, d2] }
  | _ => none }
def LawS2596APrefixWrongFalsely : Prop := lawS2596APrefixRow.holds Yba.pinned (OpenSpec.ofChange lawS2596APrefixWrong)

/-- 'labelfold.LawS2596BState': WHATEVER THE INPUT: true; the input reads as it did. -/
def lawS2596BStateSpec : ChangeSpec := { name := "lawS2596BState", fn := fun _ => fun
  | [d] => { results := [.lit (.bool true)], args := [d] }
  | _ => none }
def lawS2596BStateRow : OpenClaim := { program := "ybulkbasw", sum := "397206368788a19a5826e6e8e749d8623dfc23b3fd81872bfb0997783e84aa0a", func := "example.com/labelfold/labelfold.LawS2596BState", spec := "lawS2596BState", apart := false }
def LawS2596BStateSaid : Prop := lawS2596BStateRow.holds Yba.pinned (OpenSpec.ofChange lawS2596BStateSpec)

/-- ITS FALSE NEIGHBOUR: 'it returns false'. Refute it at one input. -/
def lawS2596BStateWrong : ChangeSpec := { name := "lawS2596BState", fn := fun _ => fun
  | [d] => { results := [.lit (.bool false)], args := [d] }
  | _ => none }
def LawS2596BStateWrongFalsely : Prop := lawS2596BStateRow.holds Yba.pinned (OpenSpec.ofChange lawS2596BStateWrong)

/-- 'labelfold.LawS2596BLookup': WHATEVER THE INPUT: true; the input reads as it did. -/
def lawS2596BLookupSpec : ChangeSpec := { name := "lawS2596BLookup", fn := fun _ => fun
  | [d1, d2] => { results := [.lit (.bool true)], args := [d1, d2] }
  | _ => none }
def lawS2596BLookupRow : OpenClaim := { program := "ybulkbasw", sum := "397206368788a19a5826e6e8e749d8623dfc23b3fd81872bfb0997783e84aa0a", func := "example.com/labelfold/labelfold.LawS2596BLookup", spec := "lawS2596BLookup", apart := false }
def LawS2596BLookupSaid : Prop := lawS2596BLookupRow.holds Yba.pinned (OpenSpec.ofChange lawS2596BLookupSpec)

/-- ITS FALSE NEIGHBOUR: 'it returns false'. Refute it at one input. -/
def lawS2596BLookupWrong : ChangeSpec := { name := "lawS2596BLookup", fn := fun _ => fun
  | [d1, d2] => { results := [.lit (.bool false)], args := [d1, d2] }
  | _ => none }
def LawS2596BLookupWrongFalsely : Prop := lawS2596BLookupRow.holds Yba.pinned (OpenSpec.ofChange lawS2596BLookupWrong)

/-- 'labelfold.LawS2596CTable': WHATEVER THE INPUT: true; the input reads as it did. -/
def lawS2596CTableSpec : ChangeSpec := { name := "lawS2596CTable", fn := fun _ => fun
  | [d] => { results := [.lit (.bool true)], args := [d] }
  | _ => none }
def lawS2596CTableRow : OpenClaim := { program := "ybulkbasw", sum := "397206368788a19a5826e6e8e749d8623dfc23b3fd81872bfb0997783e84aa0a", func := "example.com/labelfold/labelfold.LawS2596CTable", spec := "lawS2596CTable", apart := false }
def LawS2596CTableSaid : Prop := lawS2596CTableRow.holds Yba.pinned (OpenSpec.ofChange lawS2596CTableSpec)

/-- ITS FALSE NEIGHBOUR: 'it returns false'. Refute it at one input. -/
def lawS2596CTableWrong : ChangeSpec := { name := "lawS2596CTable", fn := fun _ => fun
  | [d] => { results := [.lit (.bool false)], args := [d] }
  | _ => none }
def LawS2596CTableWrongFalsely : Prop := lawS2596CTableRow.holds Yba.pinned (OpenSpec.ofChange lawS2596CTableWrong)

/-- 'labelfold.LawS2596CIdem': WHATEVER THE INPUT: true; the input reads as it did. -/
def lawS2596CIdemSpec : ChangeSpec := { name := "lawS2596CIdem", fn := fun _ => fun
  | [d1, d2] => { results := [.lit (.bool true)], args := [d1, d2] }
  | _ => none }
def lawS2596CIdemRow : OpenClaim := { program := "ybulkbasw", sum := "397206368788a19a5826e6e8e749d8623dfc23b3fd81872bfb0997783e84aa0a", func := "example.com/labelfold/labelfold.LawS2596CIdem", spec := "lawS2596CIdem", apart := false }
def LawS2596CIdemSaid : Prop := lawS2596CIdemRow.holds Yba.pinned (OpenSpec.ofChange lawS2596CIdemSpec)

/-- ITS FALSE NEIGHBOUR: 'it returns false'. Refute it at one input. -/
def lawS2596CIdemWrong : ChangeSpec := { name := "lawS2596CIdem", fn := fun _ => fun
  | [d1, d2] => { results := [.lit (.bool false)], args := [d1, d2] }
  | _ => none }
def LawS2596CIdemWrongFalsely : Prop := lawS2596CIdemRow.holds Yba.pinned (OpenSpec.ofChange lawS2596CIdemWrong)

end Rows
end Go.Proofs.Ybulkbasw
