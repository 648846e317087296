/-
  THE CONTRACTS OF CheckIndex AND CheckSizes: nil exactly where they should; the error's text is left to whatever fmt gives (F).
-/
import Derived.Test.Qxb6619599aFmtStop
import Derived.WalkKit

namespace Go.Proofs.Qxb6619599aFmt
open Go.RowKit Go.Extern.Stop Go.Stop Go.Extern
attribute [local go_sem] stop_call stop_guard fmt_index fmt_index_run fmt_sizes fmt_sizes_run op22 op22w strict22 ptr32 elem32 isError32 ptr31 elem31 isError31

theorem index_ok (i n : Int) (w : World) (h : i < n) : Calls Tryf.prog 7 #[.int .u64 i, .int .u64 n] w fun e w' => e = .returned .nilIface ∧ w' = w := by
  have h' : ¬ n ≤ i := by omega
  go_enter Tryf.func7, Tryf.ntmps7
  go_wp2
  go_ret
  exact ⟨rfl, rfl⟩

set_option maxHeartbeats 1000000 in
theorem index_no (F : Interp) (i n : Int) (w : World) (hF : F.answers w.tape) (h : n ≤ i) : Calls Tryf.prog 7 #[.int .u64 i, .int .u64 n] w fun e w' => (∃ v, e = .returned (.iface 32 v)) ∧ Below w.heap.size w w' := by
  have hF' : ∀ i name reading k range, w.tape i (.extern (word name reading k) range) = F name reading k := hF
  go_enter Tryf.func7, Tryf.ntmps7
  go_wp2
  go_ret
  exact ⟨⟨_, rfl⟩, (((Below.refl _ _).alloc (Nat.le_refl _) _).alloc (by simp) _).drew⟩

theorem sizes_ok (a b : Int) (w : World) (h0 : 1 ≤ a) (h : a ≤ b) : Calls Tryf.prog 8 #[.int .u64 a, .int .u64 b] w fun e w' => e = .returned .nilIface ∧ w' = w := by
  have h1 : (a == 0) = false := beq_false_of_ne (by omega)
  have h' : ¬ b < a := by omega
  go_enter Tryf.func8, Tryf.ntmps8
  go_wp2
  go_ret
  exact ⟨rfl, rfl⟩

set_option maxHeartbeats 1000000 in
theorem sizes_zero (F : Interp) (b : Int) (w : World) (hF : F.answers w.tape) : Calls Tryf.prog 8 #[.int .u64 0, .int .u64 b] w fun e w' => (∃ v, e = .returned (.iface 32 v)) ∧ Below w.heap.size w w' := by
  have hF' : ∀ i name reading k range, w.tape i (.extern (word name reading k) range) = F name reading k := hF
  go_enter Tryf.func8, Tryf.ntmps8
  go_wp2
  go_ret
  exact ⟨⟨_, rfl⟩, (((Below.refl _ _).alloc (Nat.le_refl _) _).alloc (by simp) _).drew⟩

set_option maxHeartbeats 1000000 in
theorem sizes_more (F : Interp) (a b : Int) (w : World) (hF : F.answers w.tape) (h0 : 1 ≤ a) (h : b < a) : Calls Tryf.prog 8 #[.int .u64 a, .int .u64 b] w fun e w' => (∃ v, e = .returned (.iface 32 v)) ∧ Below w.heap.size w w' := by
  have hF' : ∀ i name reading k range, w.tape i (.extern (word name reading k) range) = F name reading k := hF
  have h1 : (a == 0) = false := beq_false_of_ne (by omega)
  go_enter Tryf.func8, Tryf.ntmps8
  go_wp2
  go_ret
  exact ⟨⟨_, rfl⟩, (((Below.refl _ _).alloc (Nat.le_refl _) _).alloc (by simp) _).drew⟩

theorem sizes_no (F : Interp) (a b : Int) (w : World) (hF : F.answers w.tape) (h0 : 0 ≤ a) (h : a = 0 ∨ b < a) : Calls Tryf.prog 8 #[.int .u64 a, .int .u64 b] w fun e w' => (∃ v, e = .returned (.iface 32 v)) ∧ Below w.heap.size w w' := by
  by_cases e : a = 0
  · subst e; exact sizes_zero F b w hF
  · exact sizes_more F a b w hF (by omega) (by omega)

theorem iface24 : Tryf.prog.isIface 24 = true := by unfold Program.isIface; rw [Tryf.underlying24]

/-- CheckIndex(i, n): its answer is nil exactly where i < n. -/
theorem index_is (F : Interp) (i n : Int) (w : World) (hF : F.answers w.tape) : Calls Tryf.prog 7 #[.int .u64 i, .int .u64 n] w fun e w' => ∃ v, e = .returned v ∧ (∀ wx, (binOp .eql 24 v .nilIface).run Tryf.prog wx = .ok (.bool (decide (i < n))) wx) ∧ (∀ x, eqGuard .eql 24 x (.const .nilIface) v .nilIface = pure ()) ∧ Below w.heap.size w w' := by
  by_cases h : i < n
  · refine (index_ok i n w h).mono ?_
    rintro e w' ⟨rfl, rfl⟩
    exact ⟨_, rfl, fun wx => by rw [decide_eq_true h]; exact run_eql_nil_nil_at wx 24 iface24, fun x => eqGuard_nil_constR _ _ _ _, Below.refl _ _⟩
  · refine (index_no F i n w hF (by omega)).mono ?_
    rintro e w' ⟨⟨v, rfl⟩, hb⟩
    exact ⟨_, rfl, fun wx => by rw [decide_eq_false h]; exact run_eql_iface_nil wx 24 iface24 32 v, fun x => eqGuard_at_iface _ _ _ _ _ _ _, hb⟩

/-- CheckSizes(a, b): its answer is nil exactly where 1 ≤ a ≤ b. -/
theorem sizes_is (F : Interp) (a b : Int) (w : World) (hF : F.answers w.tape) (h0 : 0 ≤ a) : Calls Tryf.prog 8 #[.int .u64 a, .int .u64 b] w fun e w' => ∃ v, e = .returned v ∧ (∀ wx, (binOp .eql 24 v .nilIface).run Tryf.prog wx = .ok (.bool (decide (1 ≤ a ∧ a ≤ b))) wx) ∧ (∀ x, eqGuard .eql 24 x (.const .nilIface) v .nilIface = pure ()) ∧ Below w.heap.size w w' := by
  by_cases h : 1 ≤ a ∧ a ≤ b
  · refine (sizes_ok a b w h.1 h.2).mono ?_
    rintro e w' ⟨rfl, rfl⟩
    exact ⟨_, rfl, fun wx => by rw [decide_eq_true h]; exact run_eql_nil_nil_at wx 24 iface24, fun x => eqGuard_nil_constR _ _ _ _, Below.refl _ _⟩
  · refine (sizes_no F a b w hF h0 (by omega)).mono ?_
    rintro e w' ⟨⟨v, rfl⟩, hb⟩
    exact ⟨_, rfl, fun wx => by rw [decide_eq_false h]; exact run_eql_iface_nil wx 24 iface24 32 v, fun x => eqGuard_at_iface _ _ _ _ _ _ _, hb⟩
end Go.Proofs.Qxb6619599aFmt
