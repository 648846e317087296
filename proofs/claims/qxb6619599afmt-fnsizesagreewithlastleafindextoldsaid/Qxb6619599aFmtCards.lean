/-
  DERIVED. GIVEN WITH THE SEED: THE CARDS: each row of Qxb6619599aFmtRows.lean that lists a variable, with what it lists TIED to the program's text (the seventh form; the later family's looks); each row that meets fmt, with fmt's text TOLD by the authors' own Lean function (tested against real Go, not proved from fmt's source: count such statements apart). THE CARD IS WHAT COUNTS. Prove the row's statement (the work); the ties are given (Qxb6619599aFmtTie.lean); close each card by the builder's one call (the guide's Derived/Test/ToyasCard.lean, 'card_holds'). Laid BY PROGRAM, IN A SANDBOX (cutbox-door.mjs). By AI agents, Wed Nov 11 2026. No macro, syntax, notation, axiom, sorry.
-/
import Derived.Test.Qxb6619599aFmtRows
import GoSem.ClaimSeven
namespace Go.Proofs.Qxb6619599aFmt
namespace Rows

/-- THE TOLD CARD OF 'zzlaws_pkg_merkle_e1.FnIndexShiftInvariant'. -/
def fnIndexShiftInvariantCard : Claim7 := { stood := { row := fnIndexShiftInvariantRow, standIns := [], harness := (true, "efdec7c97fe9814d3782119b61e4c8d2a1681e79ebaa829e06d0576ec6dcb119"), looks := false }, told := true, goes := false }
def FnIndexShiftInvariantToldSaid : Prop := Claim7.holds Tryf.pinned (.plain (OpenSpec.ofChange fnIndexShiftInvariantSpec)) fnIndexShiftInvariantCard
/-- ITS FALSE NEIGHBOUR. Refute it at one input. -/
def FnIndexShiftInvariantToldWrongFalsely : Prop := Claim7.holds Tryf.pinned (.plain (OpenSpec.ofChange fnIndexShiftInvariantWrong)) fnIndexShiftInvariantCard

/-- THE TOLD CARD OF 'zzlaws_pkg_merkle_e1.FnIndexComplementSwapped'. -/
def fnIndexComplementSwappedCard : Claim7 := { stood := { row := fnIndexComplementSwappedRow, standIns := [], harness := (true, "efdec7c97fe9814d3782119b61e4c8d2a1681e79ebaa829e06d0576ec6dcb119"), looks := false }, told := true, goes := false }
def FnIndexComplementSwappedToldSaid : Prop := Claim7.holds Tryf.pinned (.plain (OpenSpec.ofChange fnIndexComplementSwappedSpec)) fnIndexComplementSwappedCard
/-- ITS FALSE NEIGHBOUR. Refute it at one input. -/
def FnIndexComplementSwappedToldWrongFalsely : Prop := Claim7.holds Tryf.pinned (.plain (OpenSpec.ofChange fnIndexComplementSwappedWrong)) fnIndexComplementSwappedCard

/-- THE TOLD CARD OF 'zzlaws_pkg_merkle_e1.FnSizesAgreeWithLastLeafIndex'. -/
def fnSizesAgreeWithLastLeafIndexCard : Claim7 := { stood := { row := fnSizesAgreeWithLastLeafIndexRow, standIns := [], harness := (true, "efdec7c97fe9814d3782119b61e4c8d2a1681e79ebaa829e06d0576ec6dcb119"), looks := false }, told := true, goes := false }
def FnSizesAgreeWithLastLeafIndexToldSaid : Prop := Claim7.holds Tryf.pinned (.plain (OpenSpec.ofChange fnSizesAgreeWithLastLeafIndexSpec)) fnSizesAgreeWithLastLeafIndexCard
/-- ITS FALSE NEIGHBOUR. Refute it at one input. -/
def FnSizesAgreeWithLastLeafIndexToldWrongFalsely : Prop := Claim7.holds Tryf.pinned (.plain (OpenSpec.ofChange fnSizesAgreeWithLastLeafIndexWrong)) fnSizesAgreeWithLastLeafIndexCard

/-- THE TOLD CARD OF 'zzlaws_pkg_merkle_e1.FnSizesTotalOrderOnPositive'. -/
def fnSizesTotalOrderOnPositiveCard : Claim7 := { stood := { row := fnSizesTotalOrderOnPositiveRow, standIns := [], harness := (true, "efdec7c97fe9814d3782119b61e4c8d2a1681e79ebaa829e06d0576ec6dcb119"), looks := false }, told := true, goes := false }
def FnSizesTotalOrderOnPositiveToldSaid : Prop := Claim7.holds Tryf.pinned (.plain (OpenSpec.ofChange fnSizesTotalOrderOnPositiveSpec)) fnSizesTotalOrderOnPositiveCard
/-- ITS FALSE NEIGHBOUR. Refute it at one input. -/
def FnSizesTotalOrderOnPositiveToldWrongFalsely : Prop := Claim7.holds Tryf.pinned (.plain (OpenSpec.ofChange fnSizesTotalOrderOnPositiveWrong)) fnSizesTotalOrderOnPositiveCard
end Rows
end Go.Proofs.Qxb6619599aFmt
