/-
  No cell of these rows narrows 'for every input' (looked for: loops, veiled, ifaces, maps, wideKeys, modest, calm, conditions, laid).
  DERIVED. THE GIVEN ROWS OF THIS SEAT. 2 by the template 'for every input the law returns true; each argument reads behind the call as it read before'; 0 by the template 'total and deterministic' (their statements: YoeddwTotals.lean).
  GIVEN WITH THE SEED: the statements are not yours to turn. If you find one false, say at which input.
  Laid BY PROGRAM, IN A SANDBOX (cutbox-rows.mjs): the forced cells as the released guide's own fill.sh prints them over the translation ab50936f38a7b981… (all of the seat's roots in one cut). By AI agents, Wed Nov 11 2026. No macro, syntax, notation, axiom, sorry.
-/
import Derived.Test.YoeddwChecked
import GoSem.Claim
import GoSem.ClaimJoined
import GoSem.ClaimMapViews
import Derived.JoinedTies
import Derived.KernelRfl
namespace Go.Proofs.Yoeddw
/- THE CELL 'sum', in the pinned program and in every row, IS THE sha256 OF THE DUMP (.gsa) THAT YoeddwProg.lean LOADS. Nothing in Lean hashes anything: it is a label: what it is worth is what the hold of that sum in a sandbox is worth. -/
noncomputable def Eddg.pinned : Pinned := { name := "yoeddw", sum := "ab50936f38a7b98199249ae6ff4e371b4fdfe0036fa9486b28676e55e7a3b8a8", checked := Eddg.checked }
namespace Rows
def none {H : Type} : Left H := { results := [], args := [] }

/-- 'zzlaws_root_b2.FnTooLargeIsMagnitudeAboveMillion': WHATEVER THE INPUT: true; the input reads as it did. -/
def fnTooLargeIsMagnitudeAboveMillionSpec : ChangeSpec := { name := "fnTooLargeIsMagnitudeAboveMillion", fn := fun _ => fun
  | [d] => { results := [.lit (.bool true)], args := [d] }
  | _ => none }
def fnTooLargeIsMagnitudeAboveMillionRow : OpenClaim := { program := "yoeddw", sum := "ab50936f38a7b98199249ae6ff4e371b4fdfe0036fa9486b28676e55e7a3b8a8", func := "github.com/d5/tengo/v2/zzlaws_root_b2.FnTooLargeIsMagnitudeAboveMillion", spec := "fnTooLargeIsMagnitudeAboveMillion", apart := false }
def FnTooLargeIsMagnitudeAboveMillionSaid : Prop := fnTooLargeIsMagnitudeAboveMillionRow.holds Eddg.pinned (OpenSpec.ofChange fnTooLargeIsMagnitudeAboveMillionSpec)

/-- ITS FALSE NEIGHBOUR: 'it returns false'. Refute it at one input. -/
def fnTooLargeIsMagnitudeAboveMillionWrong : ChangeSpec := { name := "fnTooLargeIsMagnitudeAboveMillion", fn := fun _ => fun
  | [d] => { results := [.lit (.bool false)], args := [d] }
  | _ => none }
def FnTooLargeIsMagnitudeAboveMillionWrongFalsely : Prop := fnTooLargeIsMagnitudeAboveMillionRow.holds Eddg.pinned (OpenSpec.ofChange fnTooLargeIsMagnitudeAboveMillionWrong)

/-- 'zzlaws_root_b2.FnTooLargeSymmetricAndMonotone': WHATEVER THE INPUT: true; the input reads as it did. -/
def fnTooLargeSymmetricAndMonotoneSpec : ChangeSpec := { name := "fnTooLargeSymmetricAndMonotone", fn := fun _ => fun
  | [d1, d2] => { results := [.lit (.bool true)], args := [d1, d2] }
  | _ => none }
def fnTooLargeSymmetricAndMonotoneRow : OpenClaim := { program := "yoeddw", sum := "ab50936f38a7b98199249ae6ff4e371b4fdfe0036fa9486b28676e55e7a3b8a8", func := "github.com/d5/tengo/v2/zzlaws_root_b2.FnTooLargeSymmetricAndMonotone", spec := "fnTooLargeSymmetricAndMonotone", apart := false }
def FnTooLargeSymmetricAndMonotoneSaid : Prop := fnTooLargeSymmetricAndMonotoneRow.holds Eddg.pinned (OpenSpec.ofChange fnTooLargeSymmetricAndMonotoneSpec)

/-- ITS FALSE NEIGHBOUR: 'it returns false'. Refute it at one input. -/
def fnTooLargeSymmetricAndMonotoneWrong : ChangeSpec := { name := "fnTooLargeSymmetricAndMonotone", fn := fun _ => fun
  | [d1, d2] => { results := [.lit (.bool false)], args := [d1, d2] }
  | _ => none }
def FnTooLargeSymmetricAndMonotoneWrongFalsely : Prop := fnTooLargeSymmetricAndMonotoneRow.holds Eddg.pinned (OpenSpec.ofChange fnTooLargeSymmetricAndMonotoneWrong)

end Rows
end Go.Proofs.Yoeddw
