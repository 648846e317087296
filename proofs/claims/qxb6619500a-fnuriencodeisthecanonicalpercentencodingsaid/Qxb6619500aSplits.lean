/-
  THE WALK OF FnURIEncodeSplitsAtAnyCut.
-/
import Derived.Test.Qxb6619500aEnc
import Derived.WalkLawsBesides
namespace Go.Proofs.Qxb6619500a
open Go.RowKit Plain

/-- The percent-encoding of a string. -/
def encB (s : ByteArray) : ByteArray := ⟨(enc s.data.toList).toArray⟩

theorem encB_append (a b : ByteArray) : encB (a ++ b) = encB a ++ encB b := by
  apply ByteArray.ext
  apply Array.ext'
  simp [encB, enc_append]
theorem encB_bound (s : ByteArray) : s.size ≤ (encB s).size ∧ (encB s).size ≤ 3 * s.size := enc_bound s.data.toList
theorem encB_chars (s : ByteArray) (k : Nat) (h : k < (encB s).size) : PlainAid.bt (encB s) k = 37 ∨ unr (PlainAid.bt (encB s) k) = true := by
  rw [bt_at _ k h]
  refine enc_chars s.data.toList _ ?_
  show (enc s.data.toList)[k]'h ∈ _
  exact List.getElem_mem _

theorem zz_enc_is (s r : ByteArray) (w : World) (h : encB s = r) (hs : s.size ≤ 2097152) : Calls Try.prog 8 #[.string s] w fun e w' => e = .returned (.string r) ∧ Below w.heap.size w w' := by
  rw [← h]; exact zz_enc_any s w hs
theorem unr_is (c : Int) (U : Bool) (w : World) (h : unr c = U) : Calls Try.prog 10 #[.int .u8 c] w fun e w' => e = .returned (.bool U) ∧ w' = w := by
  rw [← h]; exact unr_any c w

set_option maxHeartbeats 1000000 in
theorem splits_core (a b : ByteArray) (h1 : a.size ≤ 524288) (h2 : b.size ≤ 524288) (w : World) :
    Calls Try.prog 4 #[.string a, .string b] w fun e w' => e = .returned (.bool true) ∧ Below w.heap.size w w' := by
  have hd : decide (a.size + b.size ≤ 1048576) = true := by simp; omega
  have ha := encB_bound a
  have hb := encB_bound b
  go_enter Try.func4, Try.ntmps4
  go_wp2_with (go_at_call 11; refine (bytes11 _ _ _ (by unfold maxLen; omega) (by unfold maxLen; omega)).mono ?_; rintro e w' ⟨rfl, rfl⟩)
  go_wp2_with fail
  refine (zz_enc_is a (encB a) _ rfl (by omega)).mono ?_
  rintro e w1 ⟨rfl, b1⟩
  go_wp2_with fail
  refine (zz_enc_is b (encB b) _ rfl (by omega)).mono ?_
  rintro e w2 ⟨rfl, b2⟩
  go_wp2_with fail
  refine (zz_enc_is (a ++ b) (encB a ++ encB b) _ (encB_append a b) (by simp; omega)).mono ?_
  rintro e w3 ⟨rfl, b3⟩
  go_wp2_with fail
  have HE : Hid (∀ k, k < (encB a ++ encB b).size → PlainAid.bt (encB a ++ encB b) k = 37 ∨ unr (PlainAid.bt (encB a ++ encB b) k) = true) := by rw [← encB_append]; exact encB_chars (a ++ b)
  have hz : (encB a ++ encB b).size ≤ 3145728 := by simp; omega
  have hfin : Below w'.heap.size w' w3 := (b1.trans (b2.mono b1.size)).trans (b3.mono (Nat.le_trans b1.size b2.size))
  clear b1 b2 b3
  generalize encB a ++ encB b = E at *
  go_loop [9] (fun i => ∃ k : Nat, k ≤ E.size ∧ i = .int .i64 k) (fun i => E.size - (intOf i).toNat)
  case atStart => exact ⟨0, Nat.zero_le _, rfl⟩
  case round =>
    obtain ⟨k, hk, rfl⟩ := hrel
    by_cases hlt : k < E.size
    · have hbt := PlainAid.get_bt E
      by_cases h37 : PlainAid.bt E k = 37
      · go_wp2_with fail
        go_round
        case rel => exact ⟨k + 1, by omega, by go_num⟩
        case measure => simp [intOf]; omega
      · have HU : Hid (unr (PlainAid.bt E k) = true) := (HE.out k hlt).resolve_left h37
        go_wp2_with fail
        refine (unr_is _ true _ HU.out).mono ?_
        rintro e w4 ⟨rfl, rfl⟩
        go_wp2_with fail
        go_round
        case rel => exact ⟨k + 1, by omega, by go_num⟩
        case measure => simp [intOf]; omega
    · go_wp2
      go_ret
      exact ⟨rfl, hfin⟩

theorem splits (a b : ByteArray) (ha : a.size ≤ maxLen) (hb : b.size ≤ maxLen) (w : World) : Calls Try.prog 4 #[.string a, .string b] w fun e w' => e = .returned (.bool true) ∧ Below w.heap.size w w' := by
  by_cases hsum : a.size + b.size ≤ 1048576
  · have hd : decide (a.size + b.size ≤ 1048576) = true := by simpa using hsum
    by_cases h1 : a.size ≤ 524288
    · by_cases h2 : b.size ≤ 524288
      · exact splits_core a b h1 h2 w
      · go_enter Try.func4, Try.ntmps4
        go_wp2_with (go_at_call 11; refine (bytes11 _ _ _ ha hb).mono ?_; rintro e w' ⟨rfl, rfl⟩)
        go_ret
        exact ⟨rfl, Below.refl _ _⟩
    · go_enter Try.func4, Try.ntmps4
      go_wp2_with (go_at_call 11; refine (bytes11 _ _ _ ha hb).mono ?_; rintro e w' ⟨rfl, rfl⟩)
      go_ret
      exact ⟨rfl, Below.refl _ _⟩
  · have hd : decide (a.size + b.size ≤ 1048576) = false := by simpa using hsum
    go_enter Try.func4, Try.ntmps4
    go_wp2_with (go_at_call 11; refine (bytes11 _ _ _ ha hb).mono ?_; rintro e w' ⟨rfl, rfl⟩)
    go_ret
    exact ⟨rfl, Below.refl _ _⟩
end Go.Proofs.Qxb6619500a
