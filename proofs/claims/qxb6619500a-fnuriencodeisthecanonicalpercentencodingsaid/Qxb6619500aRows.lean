/-
  No cell of these rows narrows 'for every input' (looked for: loops, veiled, ifaces, maps, wideKeys, modest, calm, conditions, laid).
  DERIVED. THE GIVEN ROWS OF THIS SEAT. 4 by the template 'for every input the law returns true; each argument reads behind the call as it read before'; 0 by the template 'total and deterministic' (their statements: Qxb6619500aTotals.lean).
  GIVEN WITH THE SEED: the statements are not yours to turn. If you find one false, say at which input.
  Laid BY PROGRAM, IN A SANDBOX (cutbox-rows.mjs): the forced cells as the released guide's own fill.sh prints them over the translation 8e2da3486ce4a410… (all of the seat's roots in one cut). By AI agents, Wed Nov 11 2026. No macro, syntax, notation, axiom, sorry.
-/
import Derived.Test.Qxb6619500aChecked
import GoSem.Claim
import GoSem.ClaimJoined
import GoSem.ClaimMapViews
import Derived.JoinedTies
import Derived.KernelRfl
namespace Go.Proofs.Qxb6619500a
/- THE CELL 'sum', in the pinned program and in every row, IS THE sha256 OF THE DUMP (.gsa) THAT Qxb6619500aProg.lean LOADS. Nothing in Lean hashes anything: it is a label: what it is worth is what the hold of that sum in a sandbox is worth. -/
noncomputable def Try.pinned : Pinned := { name := "qxb6619500a", sum := "8e2da3486ce4a41049ffa688568861c869e81f24e1b323b10a9313671a32ecda", checked := Try.checked }
namespace Rows
def none {H : Type} : Left H := { results := [], args := [] }

/-- 'zzlaws_internal_sigv4_b1.FnURIEncodeIsTheCanonicalPercentEncoding': WHATEVER THE INPUT: true; the input reads as it did. -/
def fnURIEncodeIsTheCanonicalPercentEncodingSpec : ChangeSpec := { name := "fnURIEncodeIsTheCanonicalPercentEncoding", fn := fun _ => fun
  | [d] => { results := [.lit (.bool true)], args := [d] }
  | _ => none }
def fnURIEncodeIsTheCanonicalPercentEncodingRow : OpenClaim := { program := "qxb6619500a", sum := "8e2da3486ce4a41049ffa688568861c869e81f24e1b323b10a9313671a32ecda", func := "example.com/sigvouch/sigvouch/zzlaws_internal_sigv4_b1.FnURIEncodeIsTheCanonicalPercentEncoding", spec := "fnURIEncodeIsTheCanonicalPercentEncoding", inPlace := ["internal/abi.NoEscape"], apart := false }
def FnURIEncodeIsTheCanonicalPercentEncodingSaid : Prop := fnURIEncodeIsTheCanonicalPercentEncodingRow.holds Try.pinned (OpenSpec.ofChange fnURIEncodeIsTheCanonicalPercentEncodingSpec)

/-- ITS FALSE NEIGHBOUR: 'it returns false'. Refute it at one input. -/
def fnURIEncodeIsTheCanonicalPercentEncodingWrong : ChangeSpec := { name := "fnURIEncodeIsTheCanonicalPercentEncoding", fn := fun _ => fun
  | [d] => { results := [.lit (.bool false)], args := [d] }
  | _ => none }
def FnURIEncodeIsTheCanonicalPercentEncodingWrongFalsely : Prop := fnURIEncodeIsTheCanonicalPercentEncodingRow.holds Try.pinned (OpenSpec.ofChange fnURIEncodeIsTheCanonicalPercentEncodingWrong)

/-- 'zzlaws_internal_sigv4_b1.FnURIEncodeSplitsAtAnyCut': WHATEVER THE INPUT: true; the input reads as it did. -/
def fnURIEncodeSplitsAtAnyCutSpec : ChangeSpec := { name := "fnURIEncodeSplitsAtAnyCut", fn := fun _ => fun
  | [d1, d2] => { results := [.lit (.bool true)], args := [d1, d2] }
  | _ => none }
def fnURIEncodeSplitsAtAnyCutRow : OpenClaim := { program := "qxb6619500a", sum := "8e2da3486ce4a41049ffa688568861c869e81f24e1b323b10a9313671a32ecda", func := "example.com/sigvouch/sigvouch/zzlaws_internal_sigv4_b1.FnURIEncodeSplitsAtAnyCut", spec := "fnURIEncodeSplitsAtAnyCut", inPlace := ["internal/abi.NoEscape"], apart := false }
def FnURIEncodeSplitsAtAnyCutSaid : Prop := fnURIEncodeSplitsAtAnyCutRow.holds Try.pinned (OpenSpec.ofChange fnURIEncodeSplitsAtAnyCutSpec)

/-- ITS FALSE NEIGHBOUR: 'it returns false'. Refute it at one input. -/
def fnURIEncodeSplitsAtAnyCutWrong : ChangeSpec := { name := "fnURIEncodeSplitsAtAnyCut", fn := fun _ => fun
  | [d1, d2] => { results := [.lit (.bool false)], args := [d1, d2] }
  | _ => none }
def FnURIEncodeSplitsAtAnyCutWrongFalsely : Prop := fnURIEncodeSplitsAtAnyCutRow.holds Try.pinned (OpenSpec.ofChange fnURIEncodeSplitsAtAnyCutWrong)

/-- 'zzlaws_internal_sigv4_b1.FnIsAccessKeyIDGrowsByOneAlnumByte': WHATEVER THE INPUT: true; the input reads as it did. -/
def fnIsAccessKeyIDGrowsByOneAlnumByteSpec : ChangeSpec := { name := "fnIsAccessKeyIDGrowsByOneAlnumByte", fn := fun _ => fun
  | [d1, d2, d3] => { results := [.lit (.bool true)], args := [d1, d2, d3] }
  | _ => none }
def fnIsAccessKeyIDGrowsByOneAlnumByteRow : OpenClaim := { program := "qxb6619500a", sum := "8e2da3486ce4a41049ffa688568861c869e81f24e1b323b10a9313671a32ecda", func := "example.com/sigvouch/sigvouch/zzlaws_internal_sigv4_b1.FnIsAccessKeyIDGrowsByOneAlnumByte", spec := "fnIsAccessKeyIDGrowsByOneAlnumByte", apart := false }
def FnIsAccessKeyIDGrowsByOneAlnumByteSaid : Prop := fnIsAccessKeyIDGrowsByOneAlnumByteRow.holds Try.pinned (OpenSpec.ofChange fnIsAccessKeyIDGrowsByOneAlnumByteSpec)

/-- ITS FALSE NEIGHBOUR: 'it returns false'. Refute it at one input. -/
def fnIsAccessKeyIDGrowsByOneAlnumByteWrong : ChangeSpec := { name := "fnIsAccessKeyIDGrowsByOneAlnumByte", fn := fun _ => fun
  | [d1, d2, d3] => { results := [.lit (.bool false)], args := [d1, d2, d3] }
  | _ => none }
def FnIsAccessKeyIDGrowsByOneAlnumByteWrongFalsely : Prop := fnIsAccessKeyIDGrowsByOneAlnumByteRow.holds Try.pinned (OpenSpec.ofChange fnIsAccessKeyIDGrowsByOneAlnumByteWrong)

/-- 'zzlaws_internal_sigv4_b1.FnAccessKeyIDsNeedNoEscaping': WHATEVER THE INPUT: true; the input reads as it did. -/
def fnAccessKeyIDsNeedNoEscapingSpec : ChangeSpec := { name := "fnAccessKeyIDsNeedNoEscaping", fn := fun _ => fun
  | [d] => { results := [.lit (.bool true)], args := [d] }
  | _ => none }
def fnAccessKeyIDsNeedNoEscapingRow : OpenClaim := { program := "qxb6619500a", sum := "8e2da3486ce4a41049ffa688568861c869e81f24e1b323b10a9313671a32ecda", func := "example.com/sigvouch/sigvouch/zzlaws_internal_sigv4_b1.FnAccessKeyIDsNeedNoEscaping", spec := "fnAccessKeyIDsNeedNoEscaping", inPlace := ["internal/abi.NoEscape"], apart := false }
def FnAccessKeyIDsNeedNoEscapingSaid : Prop := fnAccessKeyIDsNeedNoEscapingRow.holds Try.pinned (OpenSpec.ofChange fnAccessKeyIDsNeedNoEscapingSpec)

/-- ITS FALSE NEIGHBOUR: 'it returns false'. Refute it at one input. -/
def fnAccessKeyIDsNeedNoEscapingWrong : ChangeSpec := { name := "fnAccessKeyIDsNeedNoEscaping", fn := fun _ => fun
  | [d] => { results := [.lit (.bool false)], args := [d] }
  | _ => none }
def FnAccessKeyIDsNeedNoEscapingWrongFalsely : Prop := fnAccessKeyIDsNeedNoEscapingRow.holds Try.pinned (OpenSpec.ofChange fnAccessKeyIDsNeedNoEscapingWrong)

end Rows
end Go.Proofs.Qxb6619500a
