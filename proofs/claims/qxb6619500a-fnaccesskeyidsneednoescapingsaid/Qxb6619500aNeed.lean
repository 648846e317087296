/-
  THE WALK OF FnAccessKeyIDsNeedNoEscaping.
-/
import Derived.Test.Qxb6619500aSplits
namespace Go.Proofs.Qxb6619500a
open Go.RowKit Plain

/-- No one of the four marks in it. -/
def noMark (l : List UInt8) : Bool := l.all (fun c => !Plain.mark c.toNat)

theorem noMark_next (s : ByteArray) (k : Nat) (h : k < s.size) : noMark (s.data.toList.take (k + 1)) = (noMark (s.data.toList.take k) && !Plain.mark (PlainAid.bt s k)) := by
  rw [bt_at s k h, take_snoc s k h]
  simp [noMark, List.all_append]

theorem mark_no (c : Int) (h : ¬ (c = 45 ∨ c = 95 ∨ c = 46 ∨ c = 126)) : Plain.mark c = false := by
  cases e : Plain.mark c with
  | false => rfl
  | true => exact absurd ((mark_iff c).1 e) h

/-- isAccessKeyID, its answer under a name. -/
theorem zz_akid_as (s : ByteArray) (S : Bool) (w : World) (h : akid s.data.toList = S) (hs : s.size ≤ 2097152) : Calls Try.prog 13 #[.string s] w fun e w' => e = .returned (.bool S) ∧ Below w.heap.size w w' := by
  rw [← h]; exact zz_akid_any s w (by unfold maxLen; omega)

theorem val_bool {a b : Bool} (h : a = b) : Value.bool a = .bool b := by rw [h]

theorem encB_same (s : ByteArray) : (encB s).toList = s.toList ↔ enc s.data.toList = s.data.toList := by
  rw [ByteArray.toList_eq, ByteArray.toList_eq]; exact Iff.rfl

theorem akid_yes (s : ByteArray) (h1 : 1 ≤ s.size) (h2 : s.size ≤ 128) (h3 : (encB s).toList = s.toList) : akid s.data.toList = noMark s.data.toList := by
  have e1 : 1 ≤ s.data.toList.length := h1
  have e2 : s.data.toList.length ≤ 128 := h2
  rw [akid_enc, decide_eq_true e1, decide_eq_true e2, decide_eq_true ((encB_same s).1 h3)]; rfl

theorem akid_no (s : ByteArray) (h : ¬ (1 ≤ s.size ∧ s.size ≤ 128 ∧ (encB s).toList = s.toList)) : akid s.data.toList = false := by
  cases e : akid s.data.toList with
  | false => rfl
  | true =>
    rw [akid_enc] at e
    simp only [Bool.and_eq_true, decide_eq_true_eq] at e
    exact absurd ⟨e.1.1.1, e.1.1.2, (encB_same s).2 e.1.2⟩ h

set_option maxHeartbeats 2000000 in
theorem need_core (s : ByteArray) (h1 : s.size ≤ 1048576) (w : World) :
    Calls Try.prog 6 #[.string s] w fun e w' => e = .returned (.bool true) ∧ Below w.heap.size w w' := by
  have hd : decide (s.size ≤ 1048576) = true := by simpa using h1
  have hE := encB_bound s
  go_enter Try.func6, Try.ntmps6
  go_wp2_with (go_at_call 15; refine (bytes15 _ _ (by unfold maxLen; omega)).mono ?_; rintro e w' ⟨rfl, rfl⟩)
  go_wp2_with fail
  refine (zz_enc_is s (encB s) _ rfl (by omega)).mono ?_
  rintro e w1 ⟨rfl, b1⟩
  go_wp2_with fail
  go_loop [4, 5] (fun m i => ∃ k : Nat, k ≤ s.size ∧ i = .int .i64 k ∧ m = .bool (noMark (s.data.toList.take k))) (fun _ i => s.size - (intOf i).toNat)
  case atStart => exact ⟨0, Nat.zero_le _, rfl, rfl⟩
  case round =>
    obtain ⟨k, hk, rfl, rfl⟩ := hrel
    by_cases hlt : k < s.size
    · have hbt := PlainAid.get_bt s
      have HN : Hid (noMark (s.data.toList.take (k + 1)) = (noMark (s.data.toList.take k) && !Plain.mark (PlainAid.bt s k))) := noMark_next s k hlt
      by_cases c1 : PlainAid.bt s k = 45
      · have HM : Hid (Plain.mark (PlainAid.bt s k) = true) := (mark_iff _).2 (by omega)
        go_wp2_with fail
        go_round
        case rel => exact ⟨k + 1, by omega, by go_num, val_bool (by rw [HN.out, HM.out]; simp)⟩
        case measure => simp [intOf]; omega
      have g1 : (PlainAid.bt s k == 45) = false := beq_false_of_ne c1
      by_cases c2 : PlainAid.bt s k = 95
      · have HM : Hid (Plain.mark (PlainAid.bt s k) = true) := (mark_iff _).2 (by omega)
        go_wp2_with fail
        go_round
        case rel => exact ⟨k + 1, by omega, by go_num, val_bool (by rw [HN.out, HM.out]; simp)⟩
        case measure => simp [intOf]; omega
      have g2 : (PlainAid.bt s k == 95) = false := beq_false_of_ne c2
      by_cases c3 : PlainAid.bt s k = 46
      · have HM : Hid (Plain.mark (PlainAid.bt s k) = true) := (mark_iff _).2 (by omega)
        go_wp2_with fail
        go_round
        case rel => exact ⟨k + 1, by omega, by go_num, val_bool (by rw [HN.out, HM.out]; simp)⟩
        case measure => simp [intOf]; omega
      have g3 : (PlainAid.bt s k == 46) = false := beq_false_of_ne c3
      by_cases c4 : PlainAid.bt s k = 126
      · have HM : Hid (Plain.mark (PlainAid.bt s k) = true) := (mark_iff _).2 (by omega)
        go_wp2_with fail
        go_round
        case rel => exact ⟨k + 1, by omega, by go_num, val_bool (by rw [HN.out, HM.out]; simp)⟩
        case measure => simp [intOf]; omega
      · have g4 : (PlainAid.bt s k == 126) = false := beq_false_of_ne c4
        have HM : Hid (Plain.mark (PlainAid.bt s k) = false) := mark_no _ (by omega)
        go_wp2_with fail
        go_round
        case rel => exact ⟨k + 1, by omega, by go_num, val_bool (by rw [HN.out, HM.out]; simp)⟩
        case measure => simp [intOf]; omega
    · have HK : Hid (noMark (s.data.toList.take k) = noMark s.data.toList) := by rw [List.take_of_length_le (show s.size ≤ k by omega)]; exact rfl
      by_cases z1 : 1 ≤ s.size
      · by_cases z2 : s.size ≤ 128
        · by_cases z3 : (encB s).toList = s.toList
          · have HA : Hid (akid s.data.toList = noMark (s.data.toList.take k)) := by rw [HK.out]; exact akid_yes s z1 z2 z3
            go_wp2_with fail
            refine (zz_akid_as s _ _ HA.out (by omega)).mono ?_
            rintro e w2 ⟨rfl, b2⟩
            go_wp2_with fail
            go_ret
            exact ⟨rfl, b1.trans (b2.mono b1.size)⟩
          · have HA : Hid (akid s.data.toList = false) := akid_no s (fun h => z3 h.2.2)
            have z3' : ((encB s).toList == s.toList) = false := by simpa using z3
            go_wp2_with fail
            refine (zz_akid_as s _ _ HA.out (by omega)).mono ?_
            rintro e w2 ⟨rfl, b2⟩
            go_wp2_with fail
            go_ret
            exact ⟨rfl, b1.trans (b2.mono b1.size)⟩
        · have HA : Hid (akid s.data.toList = false) := akid_no s (fun h => z2 h.2.1)
          go_wp2_with fail
          refine (zz_akid_as s _ _ HA.out (by omega)).mono ?_
          rintro e w2 ⟨rfl, b2⟩
          go_wp2_with fail
          go_ret
          exact ⟨rfl, b1.trans (b2.mono b1.size)⟩
      · have HA : Hid (akid s.data.toList = false) := akid_no s (fun h => z1 h.1)
        go_wp2_with fail
        refine (zz_akid_as s _ _ HA.out (by omega)).mono ?_
        rintro e w2 ⟨rfl, b2⟩
        go_wp2_with fail
        go_ret
        exact ⟨rfl, b1.trans (b2.mono b1.size)⟩

theorem need (s : ByteArray) (hs : s.size ≤ maxLen) (w : World) : Calls Try.prog 6 #[.string s] w fun e w' => e = .returned (.bool true) ∧ Below w.heap.size w w' := by
  by_cases h1 : s.size ≤ 1048576
  · exact need_core s h1 w
  · have hd : decide (s.size ≤ 1048576) = false := by simpa using h1
    go_enter Try.func6, Try.ntmps6
    go_wp2_with (go_at_call 15; refine (bytes15 _ _ hs).mono ?_; rintro e w' ⟨rfl, rfl⟩)
    go_ret
    exact ⟨rfl, Below.refl _ _⟩
end Go.Proofs.Qxb6619500a
