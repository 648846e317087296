/-
  CONTRACTS OF THE SMALL FUNCTIONS OF THE SEAT b6619500a: zzAlnum, zzUnreserved, zzUpperHex, the bounds on lengths.
-/
import Derived.Test.Qxb6619500aRows
import Derived.Test.Qxb6619500aPlain
import Derived.WalkKit

namespace Go.Proofs.Qxb6619500a
open Go.RowKit Plain

theorem ret_bool {a b : Bool} (h : a = b) : Ending.returned (.bool a) = .returned (.bool b) := by rw [h]

set_option maxHeartbeats 400000 in
theorem alnum_any (c : Int) (w : World) : Calls Try.prog 14 #[.int .u8 c] w fun e w' => e = .returned (.bool (alnum c)) ∧ w' = w := by
  go_enter Try.func14, Try.ntmps14
  go_wp2
  all_goals go_ret
  all_goals exact ⟨ret_bool (by unfold alnum; rw [Bool.eq_iff_iff]; simp; omega), rfl⟩

set_option maxHeartbeats 400000 in
theorem unr_any (c : Int) (w : World) : Calls Try.prog 10 #[.int .u8 c] w fun e w' => e = .returned (.bool (unr c)) ∧ w' = w := by
  go_enter Try.func10, Try.ntmps10
  go_wp2_with (go_at_call 14; refine (alnum_any _ _).mono ?_; rintro e w' ⟨rfl, rfl⟩)
  all_goals go_ret
  all_goals exact ⟨ret_bool (by rw [Bool.eq_iff_iff, unr, Plain.mark]; simp [*]), rfl⟩

theorem ret_pair {a b : Int} (h : a = b) : Ending.returned (.tuple #[.int .u8 a, .bool true]) = .returned (.tuple #[.int .u8 b, .bool true]) := by rw [h]

set_option maxHeartbeats 400000 in
theorem hex_low (c : Int) (w : World) (h0 : 48 ≤ c) (h1 : c ≤ 57) : Calls Try.prog 9 #[.int .u8 c] w fun e w' => e = .returned (.tuple #[.int .u8 (c - 48), .bool true]) ∧ w' = w := by
  go_enter Try.func9, Try.ntmps9
  go_wp2
  go_ret2
  exact ⟨ret_pair (by omega), rfl⟩

set_option maxHeartbeats 400000 in
theorem hex_high (c : Int) (w : World) (h0 : 65 ≤ c) (h1 : c ≤ 70) : Calls Try.prog 9 #[.int .u8 c] w fun e w' => e = .returned (.tuple #[.int .u8 (c - 55), .bool true]) ∧ w' = w := by
  have h2 : ¬ c ≤ 57 := by omega
  have h3 : 48 ≤ c := by omega
  go_enter Try.func9, Try.ntmps9
  go_wp2
  go_ret2
  exact ⟨ret_pair (by omega), rfl⟩

/-- An upper-case hex digit and its value. -/
theorem hex_any (c n : Int) (w : World) (h : (48 ≤ c ∧ c ≤ 57 ∧ n = c - 48) ∨ (65 ≤ c ∧ c ≤ 70 ∧ n = c - 55)) : Calls Try.prog 9 #[.int .u8 c] w fun e w' => e = .returned (.tuple #[.int .u8 n, .bool true]) ∧ w' = w := by
  rcases h with ⟨h0, h1, rfl⟩ | ⟨h0, h1, rfl⟩
  · exact hex_low c w h0 h1
  · exact hex_high c w h0 h1

set_option maxHeartbeats 400000 in
theorem bytes12 (a b : ByteArray) (c : Int) (w : World) (ha : a.size ≤ maxLen) (hb : b.size ≤ maxLen) : Calls Try.prog 12 #[.string a, .string b, .int .u8 c] w fun e w' => e = .returned (.bool (decide (a.size + b.size ≤ 1048576))) ∧ w' = w := by
  unfold maxLen at ha hb
  go_enter Try.func12, Try.ntmps12
  go_wp2
  all_goals go_ret
  all_goals exact ⟨ret_bool (by simp; omega), rfl⟩

set_option maxHeartbeats 400000 in
theorem bytes11 (a b : ByteArray) (w : World) (ha : a.size ≤ maxLen) (hb : b.size ≤ maxLen) : Calls Try.prog 11 #[.string a, .string b] w fun e w' => e = .returned (.bool (decide (a.size + b.size ≤ 1048576))) ∧ w' = w := by
  unfold maxLen at ha hb
  go_enter Try.func11, Try.ntmps11
  go_wp2
  all_goals go_ret
  all_goals exact ⟨ret_bool (by simp; omega), rfl⟩

set_option maxHeartbeats 400000 in
theorem bytes7 (a : ByteArray) (w : World) (ha : a.size ≤ maxLen) : Calls Try.prog 7 #[.string a] w fun e w' => e = .returned (.bool (decide (a.size ≤ 1048576))) ∧ w' = w := by
  unfold maxLen at ha
  go_enter Try.func7, Try.ntmps7
  go_wp2
  all_goals go_ret
  all_goals exact ⟨ret_bool (by simp; omega), rfl⟩

set_option maxHeartbeats 400000 in
theorem bytes15 (a : ByteArray) (w : World) (ha : a.size ≤ maxLen) : Calls Try.prog 15 #[.string a] w fun e w' => e = .returned (.bool (decide (a.size ≤ 1048576))) ∧ w' = w := by
  unfold maxLen at ha
  go_enter Try.func15, Try.ntmps15
  go_wp2
  all_goals go_ret
  all_goals exact ⟨ret_bool (by simp; omega), rfl⟩
end Go.Proofs.Qxb6619500a
