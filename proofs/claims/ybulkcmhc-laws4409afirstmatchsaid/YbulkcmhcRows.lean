/-
  No cell of these rows narrows 'for every input' (looked for: loops, veiled, ifaces, maps, wideKeys, modest, calm, conditions, laid).
  DERIVED. THE GIVEN ROWS OF THIS SEAT. 4 by the template 'for every input the law returns true; each argument reads behind the call as it read before'; 0 by the template 'total and deterministic' (their statements: YbulkcmhcTotals.lean).
  GIVEN WITH THE SEED: the statements are not yours to turn. If you find one false, say at which input.
  Laid BY PROGRAM, IN A SANDBOX (cutbox-rows.mjs): the forced cells as the released guide's own fill.sh prints them over the translation 44a7304e187b6cc9… (all of the seat's roots in one cut). By AI agents, Wed Nov 11 2026. No macro, syntax, notation, axiom, sorry.
-/
import Derived.Test.YbulkcmhcChecked
import GoSem.Claim
import GoSem.ClaimJoined
import GoSem.ClaimMapViews
import Derived.JoinedTies
import Derived.KernelRfl
namespace Go.Proofs.Ybulkcmhc
/- THE CELL 'sum', in the pinned program and in every row, IS THE sha256 OF THE DUMP (.gsa) THAT YbulkcmhcProg.lean LOADS. Nothing in Lean hashes anything: it is a label: what it is worth is what the hold of that sum in a sandbox is worth. -/
noncomputable def Yba.pinned : Pinned := { name := "ybulkcmhc", sum := "44a7304e187b6cc92d2c796a79d2761ac97d50d39aa2293af2550156752167c0", checked := Yba.checked }
namespace Rows
def none {H : Type} : Left H := { results := [], args := [] }

/-- 'keepset.LawS4409AFirstMatch': WHATEVER THE INPUT: true; the input reads as it did. -/
def lawS4409AFirstMatchSpec : ChangeSpec := { name := "lawS4409AFirstMatch", fn := fun _ => fun
  | [d1, d2, d3, d4, d5] => { results := [.lit (.bool true)], args := [d1, d2, d3, d4, d5] }
  | _ => none }
def lawS4409AFirstMatchRow : OpenClaim := { program := "ybulkcmhc", sum := "44a7304e187b6cc92d2c796a79d2761ac97d50d39aa2293af2550156752167c0", func := "example.com/keepset/keepset.LawS4409AFirstMatch", spec := "lawS4409AFirstMatch", apart := false }
def LawS4409AFirstMatchSaid : Prop := lawS4409AFirstMatchRow.holds Yba.pinned (OpenSpec.ofChange lawS4409AFirstMatchSpec)

/-- ITS FALSE NEIGHBOUR: 'it returns false'. Refute it at one input. -/
def lawS4409AFirstMatchWrong : ChangeSpec := { name := "lawS4409AFirstMatch", fn := fun _ => fun
  | [d1, d2, d3, d4, d5] => { results := [.lit (.bool false)], args := [d1, d2, d3, d4, d5] }
  | _ => none }
def LawS4409AFirstMatchWrongFalsely : Prop := lawS4409AFirstMatchRow.holds Yba.pinned (OpenSpec.ofChange lawS4409AFirstMatchWrong)

/-- 'keepset.LawS4409APicked': WHATEVER THE INPUT: true; the input reads as it did. -/
def lawS4409APickedSpec : ChangeSpec := { name := "lawS4409APicked", fn := fun _ => fun
  | [d1, d2, d3] => { results := [.lit (.bool true)], args := [d1, d2, d3] }
  | _ => none }
def lawS4409APickedRow : OpenClaim := { program := "ybulkcmhc", sum := "44a7304e187b6cc92d2c796a79d2761ac97d50d39aa2293af2550156752167c0", func := "example.com/keepset/keepset.LawS4409APicked", spec := "lawS4409APicked", apart := false }
def LawS4409APickedSaid : Prop := lawS4409APickedRow.holds Yba.pinned (OpenSpec.ofChange lawS4409APickedSpec)

/-- ITS FALSE NEIGHBOUR: 'it returns false'. Refute it at one input. -/
def lawS4409APickedWrong : ChangeSpec := { name := "lawS4409APicked", fn := fun _ => fun
  | [d1, d2, d3] => { results := [.lit (.bool false)], args := [d1, d2, d3] }
  | _ => none }
def LawS4409APickedWrongFalsely : Prop := lawS4409APickedRow.holds Yba.pinned (OpenSpec.ofChange lawS4409APickedWrong)

/-- 'keepset.LawS4409CModel': WHATEVER THE INPUT: true; the input reads as it did. -/
def lawS4409CModelSpec : ChangeSpec := { name := "lawS4409CModel", fn := fun _ => fun
  | [d] => { results := [.lit (.bool true)], args := [d] }
  | _ => none }
def lawS4409CModelRow : OpenClaim := { program := "ybulkcmhc", sum := "44a7304e187b6cc92d2c796a79d2761ac97d50d39aa2293af2550156752167c0", func := "example.com/keepset/keepset.LawS4409CModel", spec := "lawS4409CModel", apart := false }
def LawS4409CModelSaid : Prop := lawS4409CModelRow.holds Yba.pinned (OpenSpec.ofChange lawS4409CModelSpec)

/-- ITS FALSE NEIGHBOUR: 'it returns false'. Refute it at one input. -/
def lawS4409CModelWrong : ChangeSpec := { name := "lawS4409CModel", fn := fun _ => fun
  | [d] => { results := [.lit (.bool false)], args := [d] }
  | _ => none }
def LawS4409CModelWrongFalsely : Prop := lawS4409CModelRow.holds Yba.pinned (OpenSpec.ofChange lawS4409CModelWrong)

/-- 'keepset.LawS4409CBuilt': WHATEVER THE INPUT: true; the input reads as it did. -/
def lawS4409CBuiltSpec : ChangeSpec := { name := "lawS4409CBuilt", fn := fun _ => fun
  | [d] => { results := [.lit (.bool true)], args := [d] }
  | _ => none }
def lawS4409CBuiltRow : OpenClaim := { program := "ybulkcmhc", sum := "44a7304e187b6cc92d2c796a79d2761ac97d50d39aa2293af2550156752167c0", func := "example.com/keepset/keepset.LawS4409CBuilt", spec := "lawS4409CBuilt", apart := false }
def LawS4409CBuiltSaid : Prop := lawS4409CBuiltRow.holds Yba.pinned (OpenSpec.ofChange lawS4409CBuiltSpec)

/-- ITS FALSE NEIGHBOUR: 'it returns false'. Refute it at one input. -/
def lawS4409CBuiltWrong : ChangeSpec := { name := "lawS4409CBuilt", fn := fun _ => fun
  | [d] => { results := [.lit (.bool false)], args := [d] }
  | _ => none }
def LawS4409CBuiltWrongFalsely : Prop := lawS4409CBuiltRow.holds Yba.pinned (OpenSpec.ofChange lawS4409CBuiltWrong)

end Rows
end Go.Proofs.Ybulkcmhc
