/-
  No cell of these rows narrows 'for every input' (looked for: loops, veiled, ifaces, maps, wideKeys, modest, calm, conditions, laid).
  DERIVED. THE GIVEN ROWS OF THIS SEAT. 2 by the template 'for every input the law returns true; each argument reads behind the call as it read before'; 0 by the template 'total and deterministic' (their statements: Qxb6615084aTotals.lean).
  GIVEN WITH THE SEED: the statements are not yours to turn. If you find one false, say at which input.
  Laid BY PROGRAM, IN A SANDBOX (cutbox-rows.mjs): the forced cells as the released guide's own fill.sh prints them over the translation ffd12495564df9d3… (all of the seat's roots in one cut). By AI agents, Wed Nov 11 2026. No macro, syntax, notation, axiom, sorry.
-/
import Derived.Test.Qxb6615084aChecked
import GoSem.Claim
import GoSem.ClaimJoined
import GoSem.ClaimMapViews
import Derived.JoinedTies
import Derived.KernelRfl
namespace Go.Proofs.Qxb6615084a
/- THE CELL 'sum', in the pinned program and in every row, IS THE sha256 OF THE DUMP (.gsa) THAT Qxb6615084aProg.lean LOADS. Nothing in Lean hashes anything: it is a label: what it is worth is what the hold of that sum in a sandbox is worth. -/
noncomputable def Try.pinned : Pinned := { name := "qxb6615084a", sum := "ffd12495564df9d3afa90a48cb81929b0c11603ef81b0100ca2ad0164caf828f", checked := Try.checked }
namespace Rows
def none {H : Type} : Left H := { results := [], args := [] }

/-- 'zzlaws_pkg_check_b1.FnWriteAtIsTheWthWriteAndNoOther': WHATEVER THE INPUT: true; the input reads as it did. -/
def fnWriteAtIsTheWthWriteAndNoOtherSpec : ChangeSpec := { name := "fnWriteAtIsTheWthWriteAndNoOther", fn := fun _ => fun
  | [d1, d2, d3, d4] => { results := [.lit (.bool true)], args := [d1, d2, d3, d4] }
  | _ => none }
def fnWriteAtIsTheWthWriteAndNoOtherRow : OpenClaim := { program := "qxb6615084a", sum := "ffd12495564df9d3afa90a48cb81929b0c11603ef81b0100ca2ad0164caf828f", func := "example.com/isolint/isolint/zzlaws_pkg_check_b1.FnWriteAtIsTheWthWriteAndNoOther", spec := "fnWriteAtIsTheWthWriteAndNoOther", plainKeys := false, apart := false }
def FnWriteAtIsTheWthWriteAndNoOtherSaid : Prop := fnWriteAtIsTheWthWriteAndNoOtherRow.holds Try.pinned (OpenSpec.ofChange fnWriteAtIsTheWthWriteAndNoOtherSpec)

/-- ITS FALSE NEIGHBOUR: 'it returns false'. Refute it at one input. -/
def fnWriteAtIsTheWthWriteAndNoOtherWrong : ChangeSpec := { name := "fnWriteAtIsTheWthWriteAndNoOther", fn := fun _ => fun
  | [d1, d2, d3, d4] => { results := [.lit (.bool false)], args := [d1, d2, d3, d4] }
  | _ => none }
def FnWriteAtIsTheWthWriteAndNoOtherWrongFalsely : Prop := fnWriteAtIsTheWthWriteAndNoOtherRow.holds Try.pinned (OpenSpec.ofChange fnWriteAtIsTheWthWriteAndNoOtherWrong)

/-- 'zzlaws_pkg_check_b1.FnWriteThroughWriteAtIsSeenThereAlone': WHATEVER THE INPUT: true; the input reads as it did. -/
def fnWriteThroughWriteAtIsSeenThereAloneSpec : ChangeSpec := { name := "fnWriteThroughWriteAtIsSeenThereAlone", fn := fun _ => fun
  | [d1, d2, d3, d4] => { results := [.lit (.bool true)], args := [d1, d2, d3, d4] }
  | _ => none }
def fnWriteThroughWriteAtIsSeenThereAloneRow : OpenClaim := { program := "qxb6615084a", sum := "ffd12495564df9d3afa90a48cb81929b0c11603ef81b0100ca2ad0164caf828f", func := "example.com/isolint/isolint/zzlaws_pkg_check_b1.FnWriteThroughWriteAtIsSeenThereAlone", spec := "fnWriteThroughWriteAtIsSeenThereAlone", plainKeys := false, apart := false }
def FnWriteThroughWriteAtIsSeenThereAloneSaid : Prop := fnWriteThroughWriteAtIsSeenThereAloneRow.holds Try.pinned (OpenSpec.ofChange fnWriteThroughWriteAtIsSeenThereAloneSpec)

/-- ITS FALSE NEIGHBOUR: 'it returns false'. Refute it at one input. -/
def fnWriteThroughWriteAtIsSeenThereAloneWrong : ChangeSpec := { name := "fnWriteThroughWriteAtIsSeenThereAlone", fn := fun _ => fun
  | [d1, d2, d3, d4] => { results := [.lit (.bool false)], args := [d1, d2, d3, d4] }
  | _ => none }
def FnWriteThroughWriteAtIsSeenThereAloneWrongFalsely : Prop := fnWriteThroughWriteAtIsSeenThereAloneRow.holds Try.pinned (OpenSpec.ofChange fnWriteThroughWriteAtIsSeenThereAloneWrong)

end Rows
end Go.Proofs.Qxb6615084a
