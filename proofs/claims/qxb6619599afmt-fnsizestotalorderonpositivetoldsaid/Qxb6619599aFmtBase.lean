/-
  WHAT EVERY CARD OF THE SEAT b6619599aF ASKS OF THE PROGRAM ITSELF: closed facts by the kernel; a uint64's range.
-/
import Derived.Test.Qxb6619599aFmtRows
import Derived.ProofKit
import Derived.Stop.JoinedTold
namespace Go.Proofs.Qxb6619599aFmt
open Go.Extern.Stop Go.Stop Go.Extern

theorem own : ownKnob Tryf.prog.godebug = none := by kernel_rfl
theorem laidOut : laidOutB Tryf.pinned.checked.prog = true := by kernel_rfl
theorem stops : Tryf.pinned.checked.prog.stops = ["fmt.errorf"] := by kernel_rfl
theorem stopKnobs : Tryf.pinned.checked.prog.stopKnobs = [] := by kernel_rfl
theorem quiet (os : Os) : Stop.quiet Tryf.pinned.checked.prog os := by
  intro k hk
  rw [stopKnobs] at hk
  cases hk

theorem u64_range {a : Int} (w : (Lit.int .u64 a).wf = true) : 0 ≤ a ∧ a ≤ 18446744073709551615 := by
  simp [Lit.wf, IntKind.min, IntKind.max, IntKind.signed, IntKind.bits] at w
  omega
end Go.Proofs.Qxb6619599aFmt
