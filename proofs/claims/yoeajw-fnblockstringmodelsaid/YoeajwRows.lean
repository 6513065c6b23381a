/-
  No cell of these rows narrows 'for every input' (looked for: loops, veiled, ifaces, maps, wideKeys, modest, calm, conditions, laid).
  DERIVED. THE GIVEN ROWS OF THIS SEAT. 2 by the template 'for every input the law returns true; each argument reads behind the call as it read before'; 0 by the template 'total and deterministic' (their statements: YoeajwTotals.lean).
  GIVEN WITH THE SEED: the statements are not yours to turn. If you find one false, say at which input.
  Laid BY PROGRAM, IN A SANDBOX (cutbox-rows.mjs): the forced cells as the released guide's own fill.sh prints them over the translation b0b5acf803d27771… (all of the seat's roots in one cut). By AI agents, Wed Nov 11 2026. No macro, syntax, notation, axiom, sorry.
-/
import Derived.Test.YoeajwChecked
import GoSem.Claim
import GoSem.ClaimJoined
import GoSem.ClaimMapViews
import Derived.JoinedTies
import Derived.KernelRfl
namespace Go.Proofs.Yoeajw
/- THE CELL 'sum', in the pinned program and in every row, IS THE sha256 OF THE DUMP (.gsa) THAT YoeajwProg.lean LOADS. Nothing in Lean hashes anything: it is a label: what it is worth is what the hold of that sum in a sandbox is worth. -/
noncomputable def Eajg.pinned : Pinned := { name := "yoeajw", sum := "b0b5acf803d2777145d96dd805901a4b7a18a132c2376ebe407120a6cfc92348", checked := Eajg.checked }
namespace Rows
def none {H : Type} : Left H := { results := [], args := [] }

/-- 'zzlaws_parser_b54.FnBlockStringModel': WHATEVER THE INPUT: true; the input reads as it did. -/
def fnBlockStringModelSpec : ChangeSpec := { name := "fnBlockStringModel", fn := fun _ => fun
  | [d1, d2] => { results := [.lit (.bool true)], args := [d1, d2] }
  | _ => none }
def fnBlockStringModelRow : OpenClaim := { program := "yoeajw", sum := "b0b5acf803d2777145d96dd805901a4b7a18a132c2376ebe407120a6cfc92348", func := "github.com/d5/tengo/v2/zzlaws_parser_b54.FnBlockStringModel", spec := "fnBlockStringModel", inPlace := ["internal/abi.NoEscape", "internal/bytealg.MakeNoZero"], unfollowed := true, recurses := true, apart := false }
def FnBlockStringModelSaid : Prop := fnBlockStringModelRow.holds Eajg.pinned (OpenSpec.ofChange fnBlockStringModelSpec)

/-- ITS FALSE NEIGHBOUR: 'it returns false'. Refute it at one input. -/
def fnBlockStringModelWrong : ChangeSpec := { name := "fnBlockStringModel", fn := fun _ => fun
  | [d1, d2] => { results := [.lit (.bool false)], args := [d1, d2] }
  | _ => none }
def FnBlockStringModelWrongFalsely : Prop := fnBlockStringModelRow.holds Eajg.pinned (OpenSpec.ofChange fnBlockStringModelWrong)

/-- 'zzlaws_parser_b54.FnBlockStringSplitsBack': WHATEVER THE INPUT: true; the input reads as it did. -/
def fnBlockStringSplitsBackSpec : ChangeSpec := { name := "fnBlockStringSplitsBack", fn := fun _ => fun
  | [d] => { results := [.lit (.bool true)], args := [d] }
  | _ => none }
def fnBlockStringSplitsBackRow : OpenClaim := { program := "yoeajw", sum := "b0b5acf803d2777145d96dd805901a4b7a18a132c2376ebe407120a6cfc92348", func := "github.com/d5/tengo/v2/zzlaws_parser_b54.FnBlockStringSplitsBack", spec := "fnBlockStringSplitsBack", inPlace := ["internal/abi.NoEscape", "internal/bytealg.MakeNoZero"], unfollowed := true, recurses := true, apart := false }
def FnBlockStringSplitsBackSaid : Prop := fnBlockStringSplitsBackRow.holds Eajg.pinned (OpenSpec.ofChange fnBlockStringSplitsBackSpec)

/-- ITS FALSE NEIGHBOUR: 'it returns false'. Refute it at one input. -/
def fnBlockStringSplitsBackWrong : ChangeSpec := { name := "fnBlockStringSplitsBack", fn := fun _ => fun
  | [d] => { results := [.lit (.bool false)], args := [d] }
  | _ => none }
def FnBlockStringSplitsBackWrongFalsely : Prop := fnBlockStringSplitsBackRow.holds Eajg.pinned (OpenSpec.ofChange fnBlockStringSplitsBackWrong)

end Rows
end Go.Proofs.Yoeajw
