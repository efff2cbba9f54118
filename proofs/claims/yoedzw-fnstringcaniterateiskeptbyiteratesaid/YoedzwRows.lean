/-
  No cell of these rows narrows 'for every input' (looked for: loops, veiled, ifaces, maps, wideKeys, modest, calm, conditions, laid).
  DERIVED. THE GIVEN ROWS OF THIS SEAT. 2 by the template 'for every input the law returns true; each argument reads behind the call as it read before'; 0 by the template 'total and deterministic' (their statements: YoedzwTotals.lean).
  GIVEN WITH THE SEED: the statements are not yours to turn. If you find one false, say at which input.
  Laid BY PROGRAM, IN A SANDBOX (cutbox-rows.mjs): the forced cells as the released guide's own fill.sh prints them over the translation 32ee01acccfd67f1… (all of the seat's roots in one cut). By AI agents, Wed Nov 11 2026. No macro, syntax, notation, axiom, sorry.
-/
import Derived.Test.YoedzwChecked
import GoSem.Claim
import GoSem.ClaimJoined
import GoSem.ClaimMapViews
import Derived.JoinedTies
import Derived.KernelRfl
namespace Go.Proofs.Yoedzw
/- THE CELL 'sum', in the pinned program and in every row, IS THE sha256 OF THE DUMP (.gsa) THAT YoedzwProg.lean LOADS. Nothing in Lean hashes anything: it is a label: what it is worth is what the hold of that sum in a sandbox is worth. -/
noncomputable def Edzg.pinned : Pinned := { name := "yoedzw", sum := "32ee01acccfd67f1c8584eed5cb8c4e320c64e6746ad8ece69affda8c868871c", checked := Edzg.checked }
namespace Rows
def none {H : Type} : Left H := { results := [], args := [] }

/-- 'zzlaws_root_b2.FnStringIterateYieldsRunesInOrder': WHATEVER THE INPUT: true; the input reads as it did. -/
def fnStringIterateYieldsRunesInOrderSpec : ChangeSpec := { name := "fnStringIterateYieldsRunesInOrder", fn := fun _ => fun
  | [d] => { results := [.lit (.bool true)], args := [d] }
  | _ => none }
def fnStringIterateYieldsRunesInOrderRow : OpenClaim := { program := "yoedzw", sum := "32ee01acccfd67f1c8584eed5cb8c4e320c64e6746ad8ece69affda8c868871c", func := "github.com/d5/tengo/v2/zzlaws_root_b2.FnStringIterateYieldsRunesInOrder", spec := "fnStringIterateYieldsRunesInOrder", unfollowed := true, recurses := true, apart := false }
def FnStringIterateYieldsRunesInOrderSaid : Prop := fnStringIterateYieldsRunesInOrderRow.holds Edzg.pinned (OpenSpec.ofChange fnStringIterateYieldsRunesInOrderSpec)

/-- ITS FALSE NEIGHBOUR: 'it returns false'. Refute it at one input. -/
def fnStringIterateYieldsRunesInOrderWrong : ChangeSpec := { name := "fnStringIterateYieldsRunesInOrder", fn := fun _ => fun
  | [d] => { results := [.lit (.bool false)], args := [d] }
  | _ => none }
def FnStringIterateYieldsRunesInOrderWrongFalsely : Prop := fnStringIterateYieldsRunesInOrderRow.holds Edzg.pinned (OpenSpec.ofChange fnStringIterateYieldsRunesInOrderWrong)

/-- 'zzlaws_root_b2.FnStringCanIterateIsKeptByIterate': WHATEVER THE INPUT: true; the input reads as it did. -/
def fnStringCanIterateIsKeptByIterateSpec : ChangeSpec := { name := "fnStringCanIterateIsKeptByIterate", fn := fun _ => fun
  | [d] => { results := [.lit (.bool true)], args := [d] }
  | _ => none }
def fnStringCanIterateIsKeptByIterateRow : OpenClaim := { program := "yoedzw", sum := "32ee01acccfd67f1c8584eed5cb8c4e320c64e6746ad8ece69affda8c868871c", func := "github.com/d5/tengo/v2/zzlaws_root_b2.FnStringCanIterateIsKeptByIterate", spec := "fnStringCanIterateIsKeptByIterate", unfollowed := true, recurses := true, apart := false }
def FnStringCanIterateIsKeptByIterateSaid : Prop := fnStringCanIterateIsKeptByIterateRow.holds Edzg.pinned (OpenSpec.ofChange fnStringCanIterateIsKeptByIterateSpec)

/-- ITS FALSE NEIGHBOUR: 'it returns false'. Refute it at one input. -/
def fnStringCanIterateIsKeptByIterateWrong : ChangeSpec := { name := "fnStringCanIterateIsKeptByIterate", fn := fun _ => fun
  | [d] => { results := [.lit (.bool false)], args := [d] }
  | _ => none }
def FnStringCanIterateIsKeptByIterateWrongFalsely : Prop := fnStringCanIterateIsKeptByIterateRow.holds Edzg.pinned (OpenSpec.ofChange fnStringCanIterateIsKeptByIterateWrong)

end Rows
end Go.Proofs.Yoedzw
