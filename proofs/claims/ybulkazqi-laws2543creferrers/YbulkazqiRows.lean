/-
  No cell of these rows narrows 'for every input' (looked for: loops, veiled, ifaces, maps, wideKeys, modest, calm, conditions, laid).
  DERIVED. THE GIVEN ROWS OF THIS SEAT. 4 by the template 'for every input the law returns true; each argument reads behind the call as it read before'; 0 by the template 'total and deterministic' (their statements: YbulkazqiTotals.lean).
  GIVEN WITH THE SEED: the statements are not yours to turn. If you find one false, say at which input.
  Laid BY PROGRAM, IN A SANDBOX (cutbox-rows.mjs): the forced cells as the released guide's own fill.sh prints them over the translation 983449e952df5180… (all of the seat's roots in one cut). By AI agents, Wed Nov 11 2026. No macro, syntax, notation, axiom, sorry.
-/
import Derived.Test.YbulkazqiChecked
import GoSem.Claim
import GoSem.ClaimJoined
import GoSem.ClaimMapViews
import Derived.JoinedTies
import Derived.KernelRfl
namespace Go.Proofs.Ybulkazqi
/- THE CELL 'sum', in the pinned program and in every row, IS THE sha256 OF THE DUMP (.gsa) THAT YbulkazqiProg.lean LOADS. Nothing in Lean hashes anything: it is a label: what it is worth is what the hold of that sum in a sandbox is worth. -/
noncomputable def Yba.pinned : Pinned := { name := "ybulkazqi", sum := "983449e952df51809dc1b1202348cbd89d2f358fabe73a49e3e885a048677940", checked := Yba.checked }
namespace Rows
def none {H : Type} : Left H := { results := [], args := [] }

/-- 'forewire.LawS2543APathGrows': WHATEVER THE INPUT: true; the input reads as it did. -/
def lawS2543APathGrowsSpec : ChangeSpec := { name := "lawS2543APathGrows", fn := fun _ => fun
  | [d1, d2] => { results := [.lit (.bool true)], args := [d1, d2] }
  | _ => none }
def lawS2543APathGrowsRow : OpenClaim := { program := "ybulkazqi", sum := "983449e952df51809dc1b1202348cbd89d2f358fabe73a49e3e885a048677940", func := "example.com/forewire/forewire.LawS2543APathGrows", spec := "lawS2543APathGrows", apart := false }
def LawS2543APathGrowsSaid : Prop := lawS2543APathGrowsRow.holds Yba.pinned (OpenSpec.ofChange lawS2543APathGrowsSpec)

/-- ITS FALSE NEIGHBOUR: 'it returns false'. Refute it at one input. -/
def lawS2543APathGrowsWrong : ChangeSpec := { name := "lawS2543APathGrows", fn := fun _ => fun
  | [d1, d2] => { results := [.lit (.bool false)], args := [d1, d2] }
  | _ => none }
def LawS2543APathGrowsWrongFalsely : Prop := lawS2543APathGrowsRow.holds Yba.pinned (OpenSpec.ofChange lawS2543APathGrowsWrong)

/-- 'forewire.LawS2543AOthersUntouched': WHATEVER THE INPUT: true; the input reads as it did. -/
def lawS2543AOthersUntouchedSpec : ChangeSpec := { name := "lawS2543AOthersUntouched", fn := fun _ => fun
  | [d1, d2, d3, d4] => { results := [.lit (.bool true)], args := [d1, d2, d3, d4] }
  | _ => none }
def lawS2543AOthersUntouchedRow : OpenClaim := { program := "ybulkazqi", sum := "983449e952df51809dc1b1202348cbd89d2f358fabe73a49e3e885a048677940", func := "example.com/forewire/forewire.LawS2543AOthersUntouched", spec := "lawS2543AOthersUntouched", apart := false }
def LawS2543AOthersUntouchedSaid : Prop := lawS2543AOthersUntouchedRow.holds Yba.pinned (OpenSpec.ofChange lawS2543AOthersUntouchedSpec)

/-- ITS FALSE NEIGHBOUR: 'it returns false'. Refute it at one input. -/
def lawS2543AOthersUntouchedWrong : ChangeSpec := { name := "lawS2543AOthersUntouched", fn := fun _ => fun
  | [d1, d2, d3, d4] => { results := [.lit (.bool false)], args := [d1, d2, d3, d4] }
  | _ => none }
def LawS2543AOthersUntouchedWrongFalsely : Prop := lawS2543AOthersUntouchedRow.holds Yba.pinned (OpenSpec.ofChange lawS2543AOthersUntouchedWrong)

/-- 'forewire.LawS2543CHolders': WHATEVER THE INPUT: true; the input reads as it did. -/
def lawS2543CHoldersSpec : ChangeSpec := { name := "lawS2543CHolders", fn := fun _ => fun
  | [d] => { results := [.lit (.bool true)], args := [d] }
  | _ => none }
def lawS2543CHoldersRow : OpenClaim := { program := "ybulkazqi", sum := "983449e952df51809dc1b1202348cbd89d2f358fabe73a49e3e885a048677940", func := "example.com/forewire/forewire.LawS2543CHolders", spec := "lawS2543CHolders", unfollowed := true, recurses := true, apart := false }
def LawS2543CHoldersSaid : Prop := lawS2543CHoldersRow.holds Yba.pinned (OpenSpec.ofChange lawS2543CHoldersSpec)

/-- ITS FALSE NEIGHBOUR: 'it returns false'. Refute it at one input. -/
def lawS2543CHoldersWrong : ChangeSpec := { name := "lawS2543CHolders", fn := fun _ => fun
  | [d] => { results := [.lit (.bool false)], args := [d] }
  | _ => none }
def LawS2543CHoldersWrongFalsely : Prop := lawS2543CHoldersRow.holds Yba.pinned (OpenSpec.ofChange lawS2543CHoldersWrong)

/-- 'forewire.LawS2543CReferrers': WHATEVER THE INPUT: true; the input reads as it did. -/
def lawS2543CReferrersSpec : ChangeSpec := { name := "lawS2543CReferrers", fn := fun _ => fun
  | [d] => { results := [.lit (.bool true)], args := [d] }
  | _ => none }
def lawS2543CReferrersRow : OpenClaim := { program := "ybulkazqi", sum := "983449e952df51809dc1b1202348cbd89d2f358fabe73a49e3e885a048677940", func := "example.com/forewire/forewire.LawS2543CReferrers", spec := "lawS2543CReferrers", unfollowed := true, recurses := true, apart := false }
def LawS2543CReferrersSaid : Prop := lawS2543CReferrersRow.holds Yba.pinned (OpenSpec.ofChange lawS2543CReferrersSpec)

/-- ITS FALSE NEIGHBOUR: 'it returns false'. Refute it at one input. -/
def lawS2543CReferrersWrong : ChangeSpec := { name := "lawS2543CReferrers", fn := fun _ => fun
  | [d] => { results := [.lit (.bool false)], args := [d] }
  | _ => none }
def LawS2543CReferrersWrongFalsely : Prop := lawS2543CReferrersRow.holds Yba.pinned (OpenSpec.ofChange lawS2543CReferrersWrong)

end Rows
end Go.Proofs.Ybulkazqi
