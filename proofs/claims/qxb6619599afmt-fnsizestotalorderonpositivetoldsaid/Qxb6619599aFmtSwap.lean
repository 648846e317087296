/-
  THE WALK OF FnIndexComplementSwapped, for every F.
-/
import Derived.Test.Qxb6619599aFmtChecks
namespace Go.Proofs.Qxb6619599aFmt
open Go.RowKit Go.Extern.Stop Go.Stop Go.Extern

theorem true_bool {a : Bool} (h : a = true) : Ending.returned (.bool a) = .returned (.bool true) := by rw [h]

theorem swap_end (i n : Int) (hn : 0 ≤ n ∧ n ≤ 18446744073709551615) (h : (i == 18446744073709551615) = true) : (!decide (i < n)) = true := by
  have e : i = 18446744073709551615 := by simpa using h
  have : ¬ i < n := by omega
  rw [decide_eq_false this]; rfl
theorem swap_plain (i n : Int) (hi : 0 ≤ i ∧ i ≤ 18446744073709551615) (h : (i == 18446744073709551615) = false) : (decide (i < n) != decide (n < IntKind.u64.wrap (i + 1))) = true := by
  have e : i ≠ 18446744073709551615 := by simpa using h
  rw [IntWalk.u64_in (i + 1) ⟨by omega, by omega⟩]
  by_cases hc : i < n
  · rw [decide_eq_true hc, decide_eq_false (show ¬ n < i + 1 by omega)]; rfl
  · rw [decide_eq_false hc, decide_eq_true (show n < i + 1 by omega)]; rfl

set_option maxHeartbeats 1000000 in
theorem swap (F : Interp) (i n : Int) (hi : 0 ≤ i ∧ i ≤ 18446744073709551615) (hn : 0 ≤ n ∧ n ≤ 18446744073709551615) (w : World) (hF : F.answers w.tape) :
    Calls Tryf.prog 4 #[.int .u64 i, .int .u64 n] w fun e w' => e = .returned (.bool true) ∧ Below w.heap.size w w' := by
  go_enter Tryf.func4, Tryf.ntmps4
  go_wp2_with fail
  refine (index_is F _ _ _ hF).mono ?_
  rintro e w1 ⟨v1, rfl, q1, g1, b1⟩
  have hF1 : F.answers w1.tape := by rw [b1.tape]; exact hF
  go_wp2_with fail
  · go_ret
    exact ⟨true_bool (swap_end i n hn ‹_›), b1⟩
  · refine (index_is F _ _ _ hF1).mono ?_
    rintro e w2 ⟨v2, rfl, q2, g2, b2⟩
    go_wp2_with fail
    go_ret
    exact ⟨true_bool (swap_plain i n hi ‹_›), b1.trans (b2.mono b1.size)⟩
end Go.Proofs.Qxb6619599aFmt
