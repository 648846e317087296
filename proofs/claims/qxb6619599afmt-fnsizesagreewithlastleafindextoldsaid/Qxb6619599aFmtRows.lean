/-
  No cell of these rows narrows 'for every input' (looked for: loops, veiled, ifaces, maps, wideKeys, modest, calm, conditions, laid).
  DERIVED. THE GIVEN ROWS OF THIS SEAT. 4 by the template 'for every input the law returns true; each argument reads behind the call as it read before'; 0 by the template 'total and deterministic' (their statements: Qxb6619599aFmtTotals.lean).
  GIVEN WITH THE SEED: the statements are not yours to turn. If you find one false, say at which input.
  Laid BY PROGRAM, IN A SANDBOX (cutbox-rows.mjs): the forced cells as the released guide's own fill.sh prints them over the translation 9da92314d53f40c3… (all of the seat's roots in one cut). By AI agents, Wed Nov 11 2026. No macro, syntax, notation, axiom, sorry.
-/
import Derived.Test.Qxb6619599aFmtChecked
import GoSem.Claim
import GoSem.ClaimJoined
import GoSem.ClaimMapViews
import Derived.JoinedTies
import Derived.KernelRfl
namespace Go.Proofs.Qxb6619599aFmt
/- THE CELL 'sum', in the pinned program and in every row, IS THE sha256 OF THE DUMP (.gsa) THAT Qxb6619599aFmtProg.lean LOADS. Nothing in Lean hashes anything: it is a label: what it is worth is what the hold of that sum in a sandbox is worth. -/
noncomputable def Tryf.pinned : Pinned := { name := "qxb6619599afmt", sum := "9da92314d53f40c393db3ac2730e006029d0f55f85074b9572e113c13a7ab9bc", checked := Tryf.checked }
namespace Rows
def none {H : Type} : Left H := { results := [], args := [] }

/-- 'zzlaws_pkg_merkle_e1.FnIndexShiftInvariant': WHATEVER THE INPUT: true; the input reads as it did. -/
def fnIndexShiftInvariantSpec : ChangeSpec := { name := "fnIndexShiftInvariant", fn := fun _ => fun
  | [d1, d2] => { results := [.lit (.bool true)], args := [d1, d2] }
  | _ => none }
def fnIndexShiftInvariantRow : OpenClaim := { program := "qxb6619599afmt", sum := "9da92314d53f40c393db3ac2730e006029d0f55f85074b9572e113c13a7ab9bc", func := "example.com/clearleaf/clearleaf/zzlaws_pkg_merkle_e1.FnIndexShiftInvariant", spec := "fnIndexShiftInvariant", stops := ["fmt.errorf"], inPlace := ["fmt.errorf"], apart := false }
/-- NO THEOREM (fmt's text is open here; it may be false): for the released tool's asking of the row's closed facts alone. THE STATEMENT IS 'FnIndexShiftInvariantToldSaid' (Qxb6619599aFmtCards.lean). -/
def FnIndexShiftInvariantFormAsk : Prop := fnIndexShiftInvariantRow.holds Tryf.pinned (OpenSpec.ofChange fnIndexShiftInvariantSpec)

/-- ITS FALSE NEIGHBOUR: 'it returns false'. Refute it at one input. -/
def fnIndexShiftInvariantWrong : ChangeSpec := { name := "fnIndexShiftInvariant", fn := fun _ => fun
  | [d1, d2] => { results := [.lit (.bool false)], args := [d1, d2] }
  | _ => none }
def FnIndexShiftInvariantWrongFormAsk : Prop := fnIndexShiftInvariantRow.holds Tryf.pinned (OpenSpec.ofChange fnIndexShiftInvariantWrong)

/-- 'zzlaws_pkg_merkle_e1.FnIndexComplementSwapped': WHATEVER THE INPUT: true; the input reads as it did. -/
def fnIndexComplementSwappedSpec : ChangeSpec := { name := "fnIndexComplementSwapped", fn := fun _ => fun
  | [d1, d2] => { results := [.lit (.bool true)], args := [d1, d2] }
  | _ => none }
def fnIndexComplementSwappedRow : OpenClaim := { program := "qxb6619599afmt", sum := "9da92314d53f40c393db3ac2730e006029d0f55f85074b9572e113c13a7ab9bc", func := "example.com/clearleaf/clearleaf/zzlaws_pkg_merkle_e1.FnIndexComplementSwapped", spec := "fnIndexComplementSwapped", stops := ["fmt.errorf"], inPlace := ["fmt.errorf"], apart := false }
/-- NO THEOREM (fmt's text is open here; it may be false): for the released tool's asking of the row's closed facts alone. THE STATEMENT IS 'FnIndexComplementSwappedToldSaid' (Qxb6619599aFmtCards.lean). -/
def FnIndexComplementSwappedFormAsk : Prop := fnIndexComplementSwappedRow.holds Tryf.pinned (OpenSpec.ofChange fnIndexComplementSwappedSpec)

/-- ITS FALSE NEIGHBOUR: 'it returns false'. Refute it at one input. -/
def fnIndexComplementSwappedWrong : ChangeSpec := { name := "fnIndexComplementSwapped", fn := fun _ => fun
  | [d1, d2] => { results := [.lit (.bool false)], args := [d1, d2] }
  | _ => none }
def FnIndexComplementSwappedWrongFormAsk : Prop := fnIndexComplementSwappedRow.holds Tryf.pinned (OpenSpec.ofChange fnIndexComplementSwappedWrong)

/-- 'zzlaws_pkg_merkle_e1.FnSizesAgreeWithLastLeafIndex': WHATEVER THE INPUT: true; the input reads as it did. -/
def fnSizesAgreeWithLastLeafIndexSpec : ChangeSpec := { name := "fnSizesAgreeWithLastLeafIndex", fn := fun _ => fun
  | [d1, d2] => { results := [.lit (.bool true)], args := [d1, d2] }
  | _ => none }
def fnSizesAgreeWithLastLeafIndexRow : OpenClaim := { program := "qxb6619599afmt", sum := "9da92314d53f40c393db3ac2730e006029d0f55f85074b9572e113c13a7ab9bc", func := "example.com/clearleaf/clearleaf/zzlaws_pkg_merkle_e1.FnSizesAgreeWithLastLeafIndex", spec := "fnSizesAgreeWithLastLeafIndex", stops := ["fmt.errorf"], inPlace := ["fmt.errorf"], apart := false }
/-- NO THEOREM (fmt's text is open here; it may be false): for the released tool's asking of the row's closed facts alone. THE STATEMENT IS 'FnSizesAgreeWithLastLeafIndexToldSaid' (Qxb6619599aFmtCards.lean). -/
def FnSizesAgreeWithLastLeafIndexFormAsk : Prop := fnSizesAgreeWithLastLeafIndexRow.holds Tryf.pinned (OpenSpec.ofChange fnSizesAgreeWithLastLeafIndexSpec)

/-- ITS FALSE NEIGHBOUR: 'it returns false'. Refute it at one input. -/
def fnSizesAgreeWithLastLeafIndexWrong : ChangeSpec := { name := "fnSizesAgreeWithLastLeafIndex", fn := fun _ => fun
  | [d1, d2] => { results := [.lit (.bool false)], args := [d1, d2] }
  | _ => none }
def FnSizesAgreeWithLastLeafIndexWrongFormAsk : Prop := fnSizesAgreeWithLastLeafIndexRow.holds Tryf.pinned (OpenSpec.ofChange fnSizesAgreeWithLastLeafIndexWrong)

/-- 'zzlaws_pkg_merkle_e1.FnSizesTotalOrderOnPositive': WHATEVER THE INPUT: true; the input reads as it did. -/
def fnSizesTotalOrderOnPositiveSpec : ChangeSpec := { name := "fnSizesTotalOrderOnPositive", fn := fun _ => fun
  | [d1, d2, d3] => { results := [.lit (.bool true)], args := [d1, d2, d3] }
  | _ => none }
def fnSizesTotalOrderOnPositiveRow : OpenClaim := { program := "qxb6619599afmt", sum := "9da92314d53f40c393db3ac2730e006029d0f55f85074b9572e113c13a7ab9bc", func := "example.com/clearleaf/clearleaf/zzlaws_pkg_merkle_e1.FnSizesTotalOrderOnPositive", spec := "fnSizesTotalOrderOnPositive", stops := ["fmt.errorf"], inPlace := ["fmt.errorf"], apart := false }
/-- NO THEOREM (fmt's text is open here; it may be false): for the released tool's asking of the row's closed facts alone. THE STATEMENT IS 'FnSizesTotalOrderOnPositiveToldSaid' (Qxb6619599aFmtCards.lean). -/
def FnSizesTotalOrderOnPositiveFormAsk : Prop := fnSizesTotalOrderOnPositiveRow.holds Tryf.pinned (OpenSpec.ofChange fnSizesTotalOrderOnPositiveSpec)

/-- ITS FALSE NEIGHBOUR: 'it returns false'. Refute it at one input. -/
def fnSizesTotalOrderOnPositiveWrong : ChangeSpec := { name := "fnSizesTotalOrderOnPositive", fn := fun _ => fun
  | [d1, d2, d3] => { results := [.lit (.bool false)], args := [d1, d2, d3] }
  | _ => none }
def FnSizesTotalOrderOnPositiveWrongFormAsk : Prop := fnSizesTotalOrderOnPositiveRow.holds Tryf.pinned (OpenSpec.ofChange fnSizesTotalOrderOnPositiveWrong)

end Rows
end Go.Proofs.Qxb6619599aFmt
