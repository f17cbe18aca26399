/-
  No cell of these rows narrows 'for every input' (looked for: loops, veiled, ifaces, maps, wideKeys, modest, calm, conditions, laid).
  DERIVED. THE GIVEN ROWS OF THIS SEAT. 4 by the template 'for every input the law returns true; each argument reads behind the call as it read before'; 0 by the template 'total and deterministic' (their statements: YbulkcmfmTotals.lean).
  GIVEN WITH THE SEED: the statements are not yours to turn. If you find one false, say at which input.
  Laid BY PROGRAM, IN A SANDBOX (cutbox-rows.mjs): the forced cells as the released guide's own fill.sh prints them over the translation fc8c3f306edc3b80… (all of the seat's roots in one cut). By AI agents, Wed Nov 11 2026. No macro, syntax, notation, axiom, sorry.
-/
import Derived.Test.YbulkcmfmChecked
import GoSem.Claim
import GoSem.ClaimJoined
import GoSem.ClaimMapViews
import Derived.JoinedTies
import Derived.KernelRfl
namespace Go.Proofs.Ybulkcmfm
/- THE CELL 'sum', in the pinned program and in every row, IS THE sha256 OF THE DUMP (.gsa) THAT YbulkcmfmProg.lean LOADS. Nothing in Lean hashes anything: it is a label: what it is worth is what the hold of that sum in a sandbox is worth. -/
noncomputable def Yba.pinned : Pinned := { name := "ybulkcmfm", sum := "fc8c3f306edc3b80a82ae55bc8ff4a730527b9a72052063978bb4ea1ca29b49c", checked := Yba.checked }
namespace Rows
def none {H : Type} : Left H := { results := [], args := [] }

/-- 'threadline.LawS4406AOwnKey': WHATEVER THE INPUT: true; the input reads as it did. -/
def lawS4406AOwnKeySpec : ChangeSpec := { name := "lawS4406AOwnKey", fn := fun _ => fun
  | [d1, d2, d3, d4, d5, d6, d7, d8] => { results := [.lit (.bool true)], args := [d1, d2, d3, d4, d5, d6, d7, d8] }
  | _ => none }
def lawS4406AOwnKeyRow : OpenClaim := { program := "ybulkcmfm", sum := "fc8c3f306edc3b80a82ae55bc8ff4a730527b9a72052063978bb4ea1ca29b49c", func := "example.com/threadline/threadline.LawS4406AOwnKey", spec := "lawS4406AOwnKey", unfollowed := true, recurses := true, apart := false }
def LawS4406AOwnKeySaid : Prop := lawS4406AOwnKeyRow.holds Yba.pinned (OpenSpec.ofChange lawS4406AOwnKeySpec)

/-- ITS FALSE NEIGHBOUR: 'it returns false'. Refute it at one input. -/
def lawS4406AOwnKeyWrong : ChangeSpec := { name := "lawS4406AOwnKey", fn := fun _ => fun
  | [d1, d2, d3, d4, d5, d6, d7, d8] => { results := [.lit (.bool false)], args := [d1, d2, d3, d4, d5, d6, d7, d8] }
  | _ => none }
def LawS4406AOwnKeyWrongFalsely : Prop := lawS4406AOwnKeyRow.holds Yba.pinned (OpenSpec.ofChange lawS4406AOwnKeyWrong)

/-- 'threadline.LawS4406AOtherKey': WHATEVER THE INPUT: true; the input reads as it did. -/
def lawS4406AOtherKeySpec : ChangeSpec := { name := "lawS4406AOtherKey", fn := fun _ => fun
  | [d1, d2, d3, d4, d5] => { results := [.lit (.bool true)], args := [d1, d2, d3, d4, d5] }
  | _ => none }
def lawS4406AOtherKeyRow : OpenClaim := { program := "ybulkcmfm", sum := "fc8c3f306edc3b80a82ae55bc8ff4a730527b9a72052063978bb4ea1ca29b49c", func := "example.com/threadline/threadline.LawS4406AOtherKey", spec := "lawS4406AOtherKey", unfollowed := true, recurses := true, apart := false }
def LawS4406AOtherKeySaid : Prop := lawS4406AOtherKeyRow.holds Yba.pinned (OpenSpec.ofChange lawS4406AOtherKeySpec)

/-- ITS FALSE NEIGHBOUR: 'it returns false'. Refute it at one input. -/
def lawS4406AOtherKeyWrong : ChangeSpec := { name := "lawS4406AOtherKey", fn := fun _ => fun
  | [d1, d2, d3, d4, d5] => { results := [.lit (.bool false)], args := [d1, d2, d3, d4, d5] }
  | _ => none }
def LawS4406AOtherKeyWrongFalsely : Prop := lawS4406AOtherKeyRow.holds Yba.pinned (OpenSpec.ofChange lawS4406AOtherKeyWrong)

/-- 'ids.LawS4406BTable': WHATEVER THE INPUT: true; the input reads as it did. -/
def lawS4406BTableSpec : ChangeSpec := { name := "lawS4406BTable", fn := fun _ => fun
  | [d] => { results := [.lit (.bool true)], args := [d] }
  | _ => none }
def lawS4406BTableRow : OpenClaim := { program := "ybulkcmfm", sum := "fc8c3f306edc3b80a82ae55bc8ff4a730527b9a72052063978bb4ea1ca29b49c", func := "example.com/threadline/threadline/internal/ids.LawS4406BTable", spec := "lawS4406BTable", apart := false }
def LawS4406BTableSaid : Prop := lawS4406BTableRow.holds Yba.pinned (OpenSpec.ofChange lawS4406BTableSpec)

/-- ITS FALSE NEIGHBOUR: 'it returns false'. Refute it at one input. -/
def lawS4406BTableWrong : ChangeSpec := { name := "lawS4406BTable", fn := fun _ => fun
  | [d] => { results := [.lit (.bool false)], args := [d] }
  | _ => none }
def LawS4406BTableWrongFalsely : Prop := lawS4406BTableRow.holds Yba.pinned (OpenSpec.ofChange lawS4406BTableWrong)

/-- 'ids.LawS4406BCount': WHATEVER THE INPUT: true; the input reads as it did. -/
def lawS4406BCountSpec : ChangeSpec := { name := "lawS4406BCount", fn := fun _ => fun
  | [] => { results := [.lit (.bool true)], args := [] }
  | _ => none }
def lawS4406BCountRow : OpenClaim := { program := "ybulkcmfm", sum := "fc8c3f306edc3b80a82ae55bc8ff4a730527b9a72052063978bb4ea1ca29b49c", func := "example.com/threadline/threadline/internal/ids.LawS4406BCount", spec := "lawS4406BCount", apart := false }
def LawS4406BCountSaid : Prop := lawS4406BCountRow.holds Yba.pinned (OpenSpec.ofChange lawS4406BCountSpec)

/-- ITS FALSE NEIGHBOUR: 'it returns false'. Refute it at one input. -/
def lawS4406BCountWrong : ChangeSpec := { name := "lawS4406BCount", fn := fun _ => fun
  | [] => { results := [.lit (.bool false)], args := [] }
  | _ => none }
def LawS4406BCountWrongFalsely : Prop := lawS4406BCountRow.holds Yba.pinned (OpenSpec.ofChange lawS4406BCountWrong)

end Rows
end Go.Proofs.Ybulkcmfm
