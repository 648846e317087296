/-
  THE WALK OF FnSizesAgreeWithLastLeafIndex, for every F.
-/
import Derived.Test.Qxb6619599aFmtSwap
namespace Go.Proofs.Qxb6619599aFmt
open Go.RowKit Go.Extern.Stop Go.Stop Go.Extern

theorem agree_zero (a b : Int) (h : (a == 0) = true) : (!decide (1 ≤ a) || !decide (a ≤ b)) = true := by
  have e : a = 0 := by simpa using h
  rw [decide_eq_false (show ¬ 1 ≤ a by omega)]; rfl
theorem agree_plain (a b : Int) (ha : 0 ≤ a ∧ a ≤ 18446744073709551615) (h : (a == 0) = false) : ((decide (1 ≤ a) && decide (a ≤ b)) == decide (IntKind.u64.wrap (a - 1) < b)) = true := by
  have e : a ≠ 0 := by simpa using h
  rw [IntWalk.u64_in (a - 1) ⟨by omega, by omega⟩, decide_eq_true (show 1 ≤ a by omega)]
  have e2 : decide (a - 1 < b) = decide (a ≤ b) := by rw [Bool.eq_iff_iff]; simp only [decide_eq_true_eq]; omega
  rw [e2, Bool.true_and, beq_self_eq_true]

set_option maxHeartbeats 1000000 in
theorem agree (F : Interp) (a b : Int) (ha : 0 ≤ a ∧ a ≤ 18446744073709551615) (hb : 0 ≤ b ∧ b ≤ 18446744073709551615) (w : World) (hF : F.answers w.tape) :
    Calls Tryf.prog 5 #[.int .u64 a, .int .u64 b] w fun e w' => e = .returned (.bool true) ∧ Below w.heap.size w w' := by
  go_enter Tryf.func5, Tryf.ntmps5
  go_wp2_with fail
  refine (sizes_is F _ _ _ hF (by omega)).mono ?_
  rintro e w1 ⟨v1, rfl, q1, g1, b1⟩
  have hF1 : F.answers w1.tape := by rw [b1.tape]; exact hF
  go_wp2_with fail
  refine (sizes_is F _ _ _ hF1 (by omega)).mono ?_
  rintro e w2 ⟨v2, rfl, q2, g2, b2⟩
  have hF2 : F.answers w2.tape := by rw [b2.tape]; exact hF1
  go_wp2_with fail
  · go_ret
    exact ⟨true_bool (agree_zero a b ‹_›), b1.trans (b2.mono b1.size)⟩
  · refine (index_is F _ _ _ hF2).mono ?_
    rintro e w3 ⟨v3, rfl, q3, g3, b3⟩
    go_wp2_with fail
    go_ret
    exact ⟨true_bool (agree_plain a b ha ‹_›), (b1.trans (b2.mono b1.size)).trans (b3.mono (Nat.le_trans b1.size b2.size))⟩
end Go.Proofs.Qxb6619599aFmt
