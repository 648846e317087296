/-
  THE WALK OF FnSizesTotalOrderOnPositive, for every F.
-/
import Derived.Test.Qxb6619599aFmtSwap
namespace Go.Proofs.Qxb6619599aFmt
open Go.RowKit Go.Extern.Stop Go.Stop Go.Extern

theorem order_refl (a : Int) (h0 : 0 ≤ a) : ¬ (!decide (1 ≤ a) == (a != 0)) = true := by
  by_cases h : a = 0
  · subst h; decide
  · rw [decide_eq_true (show 1 ≤ a by omega), bne_iff_ne.2 h]; decide

set_option maxHeartbeats 1000000 in
theorem order (F : Interp) (a b c : Int) (ha : 0 ≤ a ∧ a ≤ 18446744073709551615) (hb : 0 ≤ b ∧ b ≤ 18446744073709551615) (_hc : 0 ≤ c ∧ c ≤ 18446744073709551615) (w : World) (hF : F.answers w.tape) :
    Calls Tryf.prog 6 #[.int .u64 a, .int .u64 b, .int .u64 c] w fun e w' => e = .returned (.bool true) ∧ Below w.heap.size w w' := by
  go_enter Tryf.func6, Tryf.ntmps6
  go_wp2_with fail
  refine (sizes_is F _ _ _ hF (by omega)).mono ?_
  rintro e w1 ⟨v1, rfl, q1, g1, b1⟩
  have hF1 : F.answers w1.tape := by rw [b1.tape]; exact hF
  go_wp2_with fail
  refine (sizes_is F _ _ _ hF1 (by omega)).mono ?_
  rintro e w2 ⟨v2, rfl, q2, g2, b2⟩
  have hF2 : F.answers w2.tape := by rw [b2.tape]; exact hF1
  go_wp2_with fail
  refine (sizes_is F _ _ _ hF2 (by omega)).mono ?_
  rintro e w3 ⟨v3, rfl, q3, g3, b3⟩
  have hF3 : F.answers w3.tape := by rw [b3.tape]; exact hF2
  go_wp2_with fail
  refine (sizes_is F _ _ _ hF3 (by omega)).mono ?_
  rintro e w4 ⟨v4, rfl, q4, g4, b4⟩
  have hF4 : F.answers w4.tape := by rw [b4.tape]; exact hF3
  go_wp2_with fail
  refine (sizes_is F _ _ _ hF4 (by omega)).mono ?_
  rintro e w5 ⟨v5, rfl, q5, g5, b5⟩
  have hfin : Below w.heap.size w w5 := (((b1.trans (b2.mono b1.size)).trans (b3.mono (Nat.le_trans b1.size b2.size))).trans (b4.mono (Nat.le_trans (Nat.le_trans b1.size b2.size) b3.size))).trans (b5.mono (Nat.le_trans (Nat.le_trans (Nat.le_trans b1.size b2.size) b3.size) b4.size))
  clear b1 b2 b3 b4 b5 hF hF1 hF2 hF3 hF4
  go_wp2_with fail
  all_goals first
    | (go_ret; exact ⟨rfl, hfin⟩)
    | exact absurd ‹(!decide (1 ≤ a) == (a != 0)) = true› (order_refl a ha.1)
    | (exfalso; clear q1 q2 q3 q4 q5 g1 g2 g3 g4 g5 hfin; simp at *; omega)
end Go.Proofs.Qxb6619599aFmt
