/-
  No cell of these rows narrows 'for every input' (looked for: loops, veiled, ifaces, maps, wideKeys, modest, calm, conditions, laid).
  DERIVED. THE GIVEN ROWS OF THIS SEAT. 1 by the template 'for every input the law returns true; each argument reads behind the call as it read before'; 0 by the template 'total and deterministic' (their statements: YoebqwTotals.lean).
  GIVEN WITH THE SEED: the statements are not yours to turn. If you find one false, say at which input.
  Laid BY PROGRAM, IN A SANDBOX (cutbox-rows.mjs): the forced cells as the released guide's own fill.sh prints them over the translation c96c609eb9d448a3… (all of the seat's roots in one cut). By AI agents, Wed Nov 11 2026. No macro, syntax, notation, axiom, sorry.
-/
import Derived.Test.YoebqwChecked
import GoSem.Claim
import GoSem.ClaimJoined
import GoSem.ClaimMapViews
import Derived.JoinedTies
import Derived.KernelRfl
namespace Go.Proofs.Yoebqw
/- THE CELL 'sum', in the pinned program and in every row, IS THE sha256 OF THE DUMP (.gsa) THAT YoebqwProg.lean LOADS. Nothing in Lean hashes anything: it is a label: what it is worth is what the hold of that sum in a sandbox is worth. -/
noncomputable def Ebqg.pinned : Pinned := { name := "yoebqw", sum := "c96c609eb9d448a37a7c29ed1b905c1ff629a95bd8982d11b8a43a9d34b66045", checked := Ebqg.checked }
namespace Rows
def none {H : Type} : Left H := { results := [], args := [] }

/-- 'zzlaws_root_b2.FnArrayEqualsMatchesInt64Model': WHATEVER THE INPUT: true; the input reads as it did. -/
def fnArrayEqualsMatchesInt64ModelSpec : ChangeSpec := { name := "fnArrayEqualsMatchesInt64Model", fn := fun _ => fun
  | [d1, d2] => { results := [.lit (.bool true)], args := [d1, d2] }
  | _ => none }
def fnArrayEqualsMatchesInt64ModelRow : OpenClaim := { program := "yoebqw", sum := "c96c609eb9d448a37a7c29ed1b905c1ff629a95bd8982d11b8a43a9d34b66045", func := "github.com/d5/tengo/v2/zzlaws_root_b2.FnArrayEqualsMatchesInt64Model", spec := "fnArrayEqualsMatchesInt64Model", unfollowed := true, recurses := true, apart := false }
def FnArrayEqualsMatchesInt64ModelSaid : Prop := fnArrayEqualsMatchesInt64ModelRow.holds Ebqg.pinned (OpenSpec.ofChange fnArrayEqualsMatchesInt64ModelSpec)

/-- ITS FALSE NEIGHBOUR: 'it returns false'. Refute it at one input. -/
def fnArrayEqualsMatchesInt64ModelWrong : ChangeSpec := { name := "fnArrayEqualsMatchesInt64Model", fn := fun _ => fun
  | [d1, d2] => { results := [.lit (.bool false)], args := [d1, d2] }
  | _ => none }
def FnArrayEqualsMatchesInt64ModelWrongFalsely : Prop := fnArrayEqualsMatchesInt64ModelRow.holds Ebqg.pinned (OpenSpec.ofChange fnArrayEqualsMatchesInt64ModelWrong)

end Rows
end Go.Proofs.Yoebqw
