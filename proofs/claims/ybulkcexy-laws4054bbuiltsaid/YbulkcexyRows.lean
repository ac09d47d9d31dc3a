/-
  No cell of these rows narrows 'for every input' (looked for: loops, veiled, ifaces, maps, wideKeys, modest, calm, conditions, laid).
  DERIVED. THE GIVEN ROWS OF THIS SEAT. 4 by the template 'for every input the law returns true; each argument reads behind the call as it read before'; 0 by the template 'total and deterministic' (their statements: YbulkcexyTotals.lean).
  GIVEN WITH THE SEED: the statements are not yours to turn. If you find one false, say at which input.
  Laid BY PROGRAM, IN A SANDBOX (cutbox-rows.mjs): the forced cells as the released guide's own fill.sh prints them over the translation 8580faeccb9330ca… (all of the seat's roots in one cut). By AI agents, Wed Nov 11 2026. No macro, syntax, notation, axiom, sorry.
-/
import Derived.Test.YbulkcexyChecked
import GoSem.Claim
import GoSem.ClaimJoined
import GoSem.ClaimMapViews
import Derived.JoinedTies
import Derived.KernelRfl
namespace Go.Proofs.Ybulkcexy
/- THE CELL 'sum', in the pinned program and in every row, IS THE sha256 OF THE DUMP (.gsa) THAT YbulkcexyProg.lean LOADS. Nothing in Lean hashes anything: it is a label: what it is worth is what the hold of that sum in a sandbox is worth. -/
noncomputable def Yba.pinned : Pinned := { name := "ybulkcexy", sum := "8580faeccb9330caa5776faad39e542c1c630772d38e0f5e5f1cf30c28ba22e7", checked := Yba.checked }
namespace Rows
def none {H : Type} : Left H := { results := [], args := [] }

/-- 'packet.LawS4054BModel': WHATEVER THE INPUT: true; the input reads as it did. -/
def lawS4054BModelSpec : ChangeSpec := { name := "lawS4054BModel", fn := fun _ => fun
  | [d1, d2] => { results := [.lit (.bool true)], args := [d1, d2] }
  | _ => none }
def lawS4054BModelRow : OpenClaim := { program := "ybulkcexy", sum := "8580faeccb9330caa5776faad39e542c1c630772d38e0f5e5f1cf30c28ba22e7", func := "example.com/lattice-watch/lattice-watch/packet.LawS4054BModel", spec := "lawS4054BModel", named := ["encoding/binary.BigEndian"], apart := false }
def LawS4054BModelSaid : Prop := lawS4054BModelRow.holds Yba.pinned (OpenSpec.ofChange lawS4054BModelSpec)

/-- ITS FALSE NEIGHBOUR: 'it returns false'. Refute it at one input. -/
def lawS4054BModelWrong : ChangeSpec := { name := "lawS4054BModel", fn := fun _ => fun
  | [d1, d2] => { results := [.lit (.bool false)], args := [d1, d2] }
  | _ => none }
def LawS4054BModelWrongFalsely : Prop := lawS4054BModelRow.holds Yba.pinned (OpenSpec.ofChange lawS4054BModelWrong)

/-- 'packet.LawS4054BBuilt': WHATEVER THE INPUT: true; the input reads as it did. -/
def lawS4054BBuiltSpec : ChangeSpec := { name := "lawS4054BBuilt", fn := fun _ => fun
  | [d1, d2, d3, d4, d5] => { results := [.lit (.bool true)], args := [d1, d2, d3, d4, d5] }
  | _ => none }
def lawS4054BBuiltRow : OpenClaim := { program := "ybulkcexy", sum := "8580faeccb9330caa5776faad39e542c1c630772d38e0f5e5f1cf30c28ba22e7", func := "example.com/lattice-watch/lattice-watch/packet.LawS4054BBuilt", spec := "lawS4054BBuilt", named := ["encoding/binary.BigEndian"], apart := false }
def LawS4054BBuiltSaid : Prop := lawS4054BBuiltRow.holds Yba.pinned (OpenSpec.ofChange lawS4054BBuiltSpec)

/-- ITS FALSE NEIGHBOUR: 'it returns false'. Refute it at one input. -/
def lawS4054BBuiltWrong : ChangeSpec := { name := "lawS4054BBuilt", fn := fun _ => fun
  | [d1, d2, d3, d4, d5] => { results := [.lit (.bool false)], args := [d1, d2, d3, d4, d5] }
  | _ => none }
def LawS4054BBuiltWrongFalsely : Prop := lawS4054BBuiltRow.holds Yba.pinned (OpenSpec.ofChange lawS4054BBuiltWrong)

/-- 'packet.LawS4054CModel': WHATEVER THE INPUT: true; the input reads as it did. -/
def lawS4054CModelSpec : ChangeSpec := { name := "lawS4054CModel", fn := fun _ => fun
  | [d] => { results := [.lit (.bool true)], args := [d] }
  | _ => none }
def lawS4054CModelRow : OpenClaim := { program := "ybulkcexy", sum := "8580faeccb9330caa5776faad39e542c1c630772d38e0f5e5f1cf30c28ba22e7", func := "example.com/lattice-watch/lattice-watch/packet.LawS4054CModel", spec := "lawS4054CModel", named := ["encoding/binary.BigEndian"], apart := false }
def LawS4054CModelSaid : Prop := lawS4054CModelRow.holds Yba.pinned (OpenSpec.ofChange lawS4054CModelSpec)

/-- ITS FALSE NEIGHBOUR: 'it returns false'. Refute it at one input. -/
def lawS4054CModelWrong : ChangeSpec := { name := "lawS4054CModel", fn := fun _ => fun
  | [d] => { results := [.lit (.bool false)], args := [d] }
  | _ => none }
def LawS4054CModelWrongFalsely : Prop := lawS4054CModelRow.holds Yba.pinned (OpenSpec.ofChange lawS4054CModelWrong)

/-- 'packet.LawS4054CBuilt': WHATEVER THE INPUT: true; the input reads as it did. -/
def lawS4054CBuiltSpec : ChangeSpec := { name := "lawS4054CBuilt", fn := fun _ => fun
  | [d] => { results := [.lit (.bool true)], args := [d] }
  | _ => none }
def lawS4054CBuiltRow : OpenClaim := { program := "ybulkcexy", sum := "8580faeccb9330caa5776faad39e542c1c630772d38e0f5e5f1cf30c28ba22e7", func := "example.com/lattice-watch/lattice-watch/packet.LawS4054CBuilt", spec := "lawS4054CBuilt", named := ["encoding/binary.BigEndian"], apart := false }
def LawS4054CBuiltSaid : Prop := lawS4054CBuiltRow.holds Yba.pinned (OpenSpec.ofChange lawS4054CBuiltSpec)

/-- ITS FALSE NEIGHBOUR: 'it returns false'. Refute it at one input. -/
def lawS4054CBuiltWrong : ChangeSpec := { name := "lawS4054CBuilt", fn := fun _ => fun
  | [d] => { results := [.lit (.bool false)], args := [d] }
  | _ => none }
def LawS4054CBuiltWrongFalsely : Prop := lawS4054CBuiltRow.holds Yba.pinned (OpenSpec.ofChange lawS4054CBuiltWrong)

end Rows
end Go.Proofs.Ybulkcexy
