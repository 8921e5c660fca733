/-
  No cell of these rows narrows 'for every input' (looked for: loops, veiled, ifaces, maps, wideKeys, modest, calm, conditions, laid).
  DERIVED. THE GIVEN ROWS OF THIS SEAT. 3 by the template 'for every input the law returns true; each argument reads behind the call as it read before'; 0 by the template 'total and deterministic' (their statements: Qxb6604202aTotals.lean).
  GIVEN WITH THE SEED: the statements are not yours to turn. If you find one false, say at which input.
  Laid BY PROGRAM, IN A SANDBOX (cutbox-rows.mjs): the forced cells as the released guide's own fill.sh prints them over the translation 8ab31607bd1276d1… (all of the seat's roots in one cut). By AI agents, Wed Nov 11 2026. No macro, syntax, notation, axiom, sorry.
-/
import Derived.Test.Qxb6604202aChecked
import GoSem.Claim
import GoSem.ClaimJoined
import GoSem.ClaimMapViews
import Derived.JoinedTies
import Derived.KernelRfl
namespace Go.Proofs.Qxb6604202a
/- THE CELL 'sum', in the pinned program and in every row, IS THE sha256 OF THE DUMP (.gsa) THAT Qxb6604202aProg.lean LOADS. Nothing in Lean hashes anything: it is a label: what it is worth is what the hold of that sum in a sandbox is worth. -/
noncomputable def Try.pinned : Pinned := { name := "qxb6604202a", sum := "8ab31607bd1276d1774fd595c6bed22e2f9087f526e689e54862a73411e382c7", checked := Try.checked }
namespace Rows
def none {H : Type} : Left H := { results := [], args := [] }

/-- 'zzlaws_pkg_sdtp_b1.FnTakeKeyExact': WHATEVER THE INPUT: true; the input reads as it did. -/
def fnTakeKeyExactSpec : ChangeSpec := { name := "fnTakeKeyExact", fn := fun _ => fun
  | [d] => { results := [.lit (.bool true)], args := [d] }
  | _ => none }
def fnTakeKeyExactRow : OpenClaim := { program := "qxb6604202a", sum := "8ab31607bd1276d1774fd595c6bed22e2f9087f526e689e54862a73411e382c7", func := "example.com/checkferry/checkferry/zzlaws_pkg_sdtp_b1.FnTakeKeyExact", spec := "fnTakeKeyExact", apart := false }
def FnTakeKeyExactSaid : Prop := fnTakeKeyExactRow.holds Try.pinned (OpenSpec.ofChange fnTakeKeyExactSpec)

/-- ITS FALSE NEIGHBOUR: 'it returns false'. Refute it at one input. -/
def fnTakeKeyExactWrong : ChangeSpec := { name := "fnTakeKeyExact", fn := fun _ => fun
  | [d] => { results := [.lit (.bool false)], args := [d] }
  | _ => none }
def FnTakeKeyExactWrongFalsely : Prop := fnTakeKeyExactRow.holds Try.pinned (OpenSpec.ofChange fnTakeKeyExactWrong)

/-- 'zzlaws_pkg_sdtp_b1.FnSkipItemExact': WHATEVER THE INPUT: true; the input reads as it did. -/
def fnSkipItemExactSpec : ChangeSpec := { name := "fnSkipItemExact", fn := fun _ => fun
  | [d] => { results := [.lit (.bool true)], args := [d] }
  | _ => none }
def fnSkipItemExactRow : OpenClaim := { program := "qxb6604202a", sum := "8ab31607bd1276d1774fd595c6bed22e2f9087f526e689e54862a73411e382c7", func := "example.com/checkferry/checkferry/zzlaws_pkg_sdtp_b1.FnSkipItemExact", spec := "fnSkipItemExact", inPlace := ["internal/bytealg.IndexByteString", "internal/bytealg.IndexString"], named := ["internal/bytealg.MaxLen"], apart := false }
def FnSkipItemExactSaid : Prop := fnSkipItemExactRow.holds Try.pinned (OpenSpec.ofChange fnSkipItemExactSpec)

/-- ITS FALSE NEIGHBOUR: 'it returns false'. Refute it at one input. -/
def fnSkipItemExactWrong : ChangeSpec := { name := "fnSkipItemExact", fn := fun _ => fun
  | [d] => { results := [.lit (.bool false)], args := [d] }
  | _ => none }
def FnSkipItemExactWrongFalsely : Prop := fnSkipItemExactRow.holds Try.pinned (OpenSpec.ofChange fnSkipItemExactWrong)

/-- 'zzlaws_pkg_sdtp_b1.FnSkipItemQuotedRoundTrip': WHATEVER THE INPUT: true; the input reads as it did. -/
def fnSkipItemQuotedRoundTripSpec : ChangeSpec := { name := "fnSkipItemQuotedRoundTrip", fn := fun _ => fun
  | [d1, d2] => { results := [.lit (.bool true)], args := [d1, d2] }
  | _ => none }
def fnSkipItemQuotedRoundTripRow : OpenClaim := { program := "qxb6604202a", sum := "8ab31607bd1276d1774fd595c6bed22e2f9087f526e689e54862a73411e382c7", func := "example.com/checkferry/checkferry/zzlaws_pkg_sdtp_b1.FnSkipItemQuotedRoundTrip", spec := "fnSkipItemQuotedRoundTrip", inPlace := ["internal/bytealg.IndexByteString", "internal/bytealg.IndexString"], named := ["internal/bytealg.MaxLen"], apart := false }
def FnSkipItemQuotedRoundTripSaid : Prop := fnSkipItemQuotedRoundTripRow.holds Try.pinned (OpenSpec.ofChange fnSkipItemQuotedRoundTripSpec)

/-- ITS FALSE NEIGHBOUR: 'it returns false'. Refute it at one input. -/
def fnSkipItemQuotedRoundTripWrong : ChangeSpec := { name := "fnSkipItemQuotedRoundTrip", fn := fun _ => fun
  | [d1, d2] => { results := [.lit (.bool false)], args := [d1, d2] }
  | _ => none }
def FnSkipItemQuotedRoundTripWrongFalsely : Prop := fnSkipItemQuotedRoundTripRow.holds Try.pinned (OpenSpec.ofChange fnSkipItemQuotedRoundTripWrong)

end Rows
end Go.Proofs.Qxb6604202a
