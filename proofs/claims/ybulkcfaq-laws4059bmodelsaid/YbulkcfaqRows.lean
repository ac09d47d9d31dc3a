/-
  No cell of these rows narrows 'for every input' (looked for: loops, veiled, ifaces, maps, wideKeys, modest, calm, conditions, laid).
  DERIVED. THE GIVEN ROWS OF THIS SEAT. 2 by the template 'for every input the law returns true; each argument reads behind the call as it read before'; 0 by the template 'total and deterministic' (their statements: YbulkcfaqTotals.lean).
  GIVEN WITH THE SEED: the statements are not yours to turn. If you find one false, say at which input.
  Laid BY PROGRAM, IN A SANDBOX (cutbox-rows.mjs): the forced cells as the released guide's own fill.sh prints them over the translation 94ddf0df3a39ccd8… (all of the seat's roots in one cut). By AI agents, Wed Nov 11 2026. No macro, syntax, notation, axiom, sorry.
-/
import Derived.Test.YbulkcfaqChecked
import GoSem.Claim
import GoSem.ClaimJoined
import GoSem.ClaimMapViews
import Derived.JoinedTies
import Derived.KernelRfl
namespace Go.Proofs.Ybulkcfaq
/- THE CELL 'sum', in the pinned program and in every row, IS THE sha256 OF THE DUMP (.gsa) THAT YbulkcfaqProg.lean LOADS. Nothing in Lean hashes anything: it is a label: what it is worth is what the hold of that sum in a sandbox is worth. -/
noncomputable def Yba.pinned : Pinned := { name := "ybulkcfaq", sum := "94ddf0df3a39ccd884b0be84f346e6d282c21223b39ffa382356c42311c2d46b", checked := Yba.checked }
namespace Rows
def none {H : Type} : Left H := { results := [], args := [] }

/-- 'murmurcast.LawS4059AExclusiveSums': WHATEVER THE INPUT: true; the input reads as it did. -/
def lawS4059AExclusiveSumsSpec : ChangeSpec := { name := "lawS4059AExclusiveSums", fn := fun _ => fun
  | [d] => { results := [.lit (.bool true)], args := [d] }
  | _ => none }
def lawS4059AExclusiveSumsRow : OpenClaim := { program := "ybulkcfaq", sum := "94ddf0df3a39ccd884b0be84f346e6d282c21223b39ffa382356c42311c2d46b", func := "example.com/murmurcast/murmurcast.LawS4059AExclusiveSums", spec := "lawS4059AExclusiveSums", apart := false }
def LawS4059AExclusiveSumsSaid : Prop := lawS4059AExclusiveSumsRow.holds Yba.pinned (OpenSpec.ofChange lawS4059AExclusiveSumsSpec)

/-- ITS FALSE NEIGHBOUR: 'it returns false'. Refute it at one input. -/
def lawS4059AExclusiveSumsWrong : ChangeSpec := { name := "lawS4059AExclusiveSums", fn := fun _ => fun
  | [d] => { results := [.lit (.bool false)], args := [d] }
  | _ => none }
def LawS4059AExclusiveSumsWrongFalsely : Prop := lawS4059AExclusiveSumsRow.holds Yba.pinned (OpenSpec.ofChange lawS4059AExclusiveSumsWrong)

/-- 'murmurcast.LawS4059BModel': WHATEVER THE INPUT: true; the input reads as it did. -/
def lawS4059BModelSpec : ChangeSpec := { name := "lawS4059BModel", fn := fun _ => fun
  | [d1, d2, d3, d4, d5] => { results := [.lit (.bool true)], args := [d1, d2, d3, d4, d5] }
  | _ => none }
def lawS4059BModelRow : OpenClaim := { program := "ybulkcfaq", sum := "94ddf0df3a39ccd884b0be84f346e6d282c21223b39ffa382356c42311c2d46b", func := "example.com/murmurcast/murmurcast.LawS4059BModel", spec := "lawS4059BModel", apart := false }
def LawS4059BModelSaid : Prop := lawS4059BModelRow.holds Yba.pinned (OpenSpec.ofChange lawS4059BModelSpec)

/-- ITS FALSE NEIGHBOUR: 'it returns false'. Refute it at one input. -/
def lawS4059BModelWrong : ChangeSpec := { name := "lawS4059BModel", fn := fun _ => fun
  | [d1, d2, d3, d4, d5] => { results := [.lit (.bool false)], args := [d1, d2, d3, d4, d5] }
  | _ => none }
def LawS4059BModelWrongFalsely : Prop := lawS4059BModelRow.holds Yba.pinned (OpenSpec.ofChange lawS4059BModelWrong)

end Rows
end Go.Proofs.Ybulkcfaq
