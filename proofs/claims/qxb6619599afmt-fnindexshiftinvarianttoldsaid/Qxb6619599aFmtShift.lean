/-
  THE WALK OF FnIndexShiftInvariant, for every F.
-/
import Derived.Test.Qxb6619599aFmtChecks
namespace Go.Proofs.Qxb6619599aFmt
open Go.RowKit Go.Extern.Stop Go.Stop Go.Extern

theorem ret_bool {a : Bool} (h : a = true) : Ending.returned (.bool a) = .returned (.bool true) := by rw [h]

theorem shift_plain (i n : Int) (hi : 0 ≤ i ∧ i ≤ 18446744073709551615) (hn : 0 ≤ n ∧ n ≤ 18446744073709551615) (h1 : (n == 0) = false) (h2 : (i == 0) = false) :
    (decide (i < n) == decide (IntKind.u64.wrap (i - 1) < IntKind.u64.wrap (n - 1))) = true := by
  have e1 : n ≠ 0 := by simpa using h1
  have e2 : i ≠ 0 := by simpa using h2
  rw [IntWalk.u64_in (i - 1) ⟨by omega, by omega⟩, IntWalk.u64_in (n - 1) ⟨by omega, by omega⟩]
  have e : decide (i - 1 < n - 1) = decide (i < n) := by rw [Bool.eq_iff_iff]; simp only [decide_eq_true_eq]; omega
  rw [e, beq_self_eq_true]

set_option maxHeartbeats 1000000 in
theorem shift (F : Interp) (i n : Int) (hi : 0 ≤ i ∧ i ≤ 18446744073709551615) (hn : 0 ≤ n ∧ n ≤ 18446744073709551615) (w : World) (hF : F.answers w.tape) :
    Calls Tryf.prog 3 #[.int .u64 i, .int .u64 n] w fun e w' => e = .returned (.bool true) ∧ Below w.heap.size w w' := by
  go_enter Tryf.func3, Tryf.ntmps3
  go_wp2_with fail
  refine (index_is F _ _ _ hF).mono ?_
  rintro e w1 ⟨v1, rfl, q1, g1, b1⟩
  have hF1 : F.answers w1.tape := by rw [b1.tape]; exact hF
  go_wp2_with fail
  refine (index_is F _ _ _ hF1).mono ?_
  rintro e w2 ⟨v2, rfl, q2, g2, b2⟩
  have hF2 : F.answers w2.tape := by rw [b2.tape]; exact hF1
  go_wp2_with fail
  · go_ret
    exact ⟨ret_bool (by simp at *; omega), b1.trans (b2.mono b1.size)⟩
  · go_ret
    exact ⟨ret_bool (by simp at *; omega), b1.trans (b2.mono b1.size)⟩
  · refine (index_is F _ _ _ hF2).mono ?_
    rintro e w3 ⟨v3, rfl, q3, g3, b3⟩
    go_wp2_with fail
    go_ret
    exact ⟨ret_bool (shift_plain i n hi hn ‹_› ‹_›), (b1.trans (b2.mono b1.size)).trans (b3.mono (Nat.le_trans b1.size b2.size))⟩
end Go.Proofs.Qxb6619599aFmt
