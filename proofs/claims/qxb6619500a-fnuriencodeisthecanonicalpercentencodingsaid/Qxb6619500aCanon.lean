/-
  THE WALK OF FnURIEncodeIsTheCanonicalPercentEncoding.
-/
import Derived.Test.Qxb6619500aSplits
namespace Go.Proofs.Qxb6619500a
open Go.RowKit Plain

/-- Where in the encoded text the k-th byte's code begins. -/
def at_ (s : ByteArray) (k : Nat) : Nat := (enc (s.data.toList.take k)).length

theorem at_next (s : ByteArray) (k : Nat) (h : k < s.size) : at_ s (k + 1) = at_ s k + (enc1 s[k]).length := by
  unfold at_; rw [take_snoc s k h, enc_snoc, List.length_append]

theorem enc_cut (s : ByteArray) (k : Nat) (h : k < s.size) : enc s.data.toList = enc (s.data.toList.take k) ++ (enc1 s[k] ++ enc (s.data.toList.drop (k + 1))) := by
  have e : s.data.toList = s.data.toList.take k ++ (s[k] :: s.data.toList.drop (k + 1)) := by
    have := List.take_append_drop k s.data.toList
    rw [List.drop_eq_getElem_cons (by simpa using h)] at this
    exact this.symm
  have e2 := congrArg enc e
  rw [enc_append] at e2
  exact e2

theorem size_encB (s : ByteArray) : (encB s).size = (enc s.data.toList).length := rfl

theorem at_room (s : ByteArray) (k : Nat) (h : k < s.size) : at_ s k + (enc1 s[k]).length ≤ (encB s).size := by
  rw [size_encB, enc_cut s k h]; simp [at_]

/-- The bytes of the k-th byte's code. -/
theorem at_byte (s : ByteArray) (k : Nat) (h : k < s.size) (j : Nat) (hj : j < (enc1 s[k]).length) : PlainAid.bt (encB s) (at_ s k + j) = (((enc1 s[k])[j]'hj).toNat : Int) := by
  have hr := at_room s k h
  have hlt : at_ s k + j < (encB s).size := by omega
  rw [bt_at _ _ hlt]
  have hl : at_ s k + j < (enc s.data.toList).length := hlt
  have e1 : (encB s)[at_ s k + j]'hlt = (enc s.data.toList)[at_ s k + j]'hl := rfl
  have e2 : (enc s.data.toList)[at_ s k + j]? = some ((enc1 s[k])[j]'hj) := by
    rw [enc_cut s k h, List.getElem?_append_right (by unfold at_; omega)]
    have : at_ s k + j - (enc (s.data.toList.take k)).length = j := by unfold at_; omega
    rw [this, List.getElem?_append_left hj, List.getElem?_eq_getElem hj]
  rw [List.getElem?_eq_getElem hl] at e2
  rw [e1, Option.some.inj e2]

theorem at_more (s : ByteArray) (k : Nat) (h : at_ s k < (encB s).size) : k < s.size := by
  rcases Nat.lt_or_ge k s.size with h' | h'
  · exact h'
  · unfold at_ at h
    rw [List.take_of_length_le (show s.size ≤ k from h')] at h
    exact absurd h (Nat.lt_irrefl _)

theorem at_end (s : ByteArray) (k : Nat) (hk : k ≤ s.size) (h : (encB s).size ≤ at_ s k) : k = s.size := by
  rcases Nat.lt_or_ge k s.size with h' | h'
  · have := at_room s k h'
    have := (enc1_bound s[k]).1
    omega
  · omega

theorem enc1_bare (c : UInt8) (h : unr c.toNat = true) : enc1 c = [c] := by simp only [enc1, h, if_true]
theorem enc1_pct (c : UInt8) (h : unr c.toNat = false) : enc1 c = [37, hexd (c.toNat / 16), hexd (c.toNat % 16)] := by
  have hf : ¬ unr c.toNat = true := by simp [h]
  simp only [enc1, hf]; simp

theorem hexd_value (n : Nat) (h : n < 16) : (48 ≤ ((hexd n).toNat : Int) ∧ ((hexd n).toNat : Int) ≤ 57 ∧ (n : Int) = ((hexd n).toNat : Int) - 48) ∨ (65 ≤ ((hexd n).toNat : Int) ∧ ((hexd n).toNat : Int) ≤ 70 ∧ (n : Int) = ((hexd n).toNat : Int) - 55) := by
  rw [hexd_toNat n h]; split <;> omega

theorem nibbles_fin : ∀ n : Fin 256, bits .or .u8 ((n.val : Int) / 16 * 16) ((n.val : Int) % 16) = (n.val : Int) := by decide +kernel
theorem nibbles (c : Int) (h0 : 0 ≤ c) (h1 : c ≤ 255) : bits .or .u8 (c / 16 * 16) (c % 16) = c := by
  have := nibbles_fin ⟨c.toNat, by omega⟩
  have e : ((c.toNat : Nat) : Int) = c := by omega
  simpa [e] using this

/-- A bare byte of the encoded text. -/
theorem bare_facts (s : ByteArray) (k : Nat) (h : k < s.size) (hu : unr (PlainAid.bt s k) = true) :
    PlainAid.bt (encB s) (at_ s k) = PlainAid.bt s k ∧ at_ s (k + 1) = at_ s k + 1 ∧ ¬ PlainAid.bt s k = 37 := by
  rw [bt_at s k h] at hu
  have e := enc1_bare _ hu
  have hj : 0 < (enc1 s[k]).length := by rw [e]; simp
  have b := at_byte s k h 0 hj
  refine ⟨?_, by rw [at_next s k h, e]; rfl, ?_⟩
  · rw [bt_at s k h]
    have : (enc1 s[k])[0]'hj = s[k] := by simp [e]
    rw [this] at b
    exact b
  · rw [bt_at s k h]
    have := (unr_iff _).1 hu
    omega

/-- An escape of the encoded text. -/
theorem pct_facts (s : ByteArray) (k : Nat) (h : k < s.size) (hu : unr (PlainAid.bt s k) = false) :
    PlainAid.bt (encB s) (at_ s k) = 37 ∧ at_ s (k + 1) = at_ s k + 3 ∧ at_ s k + 3 ≤ (encB s).size ∧
    ((48 ≤ PlainAid.bt (encB s) (at_ s k + 1) ∧ PlainAid.bt (encB s) (at_ s k + 1) ≤ 57 ∧ PlainAid.bt s k / 16 = PlainAid.bt (encB s) (at_ s k + 1) - 48) ∨ (65 ≤ PlainAid.bt (encB s) (at_ s k + 1) ∧ PlainAid.bt (encB s) (at_ s k + 1) ≤ 70 ∧ PlainAid.bt s k / 16 = PlainAid.bt (encB s) (at_ s k + 1) - 55)) ∧
    ((48 ≤ PlainAid.bt (encB s) (at_ s k + 2) ∧ PlainAid.bt (encB s) (at_ s k + 2) ≤ 57 ∧ PlainAid.bt s k % 16 = PlainAid.bt (encB s) (at_ s k + 2) - 48) ∨ (65 ≤ PlainAid.bt (encB s) (at_ s k + 2) ∧ PlainAid.bt (encB s) (at_ s k + 2) ≤ 70 ∧ PlainAid.bt s k % 16 = PlainAid.bt (encB s) (at_ s k + 2) - 55)) := by
  rw [bt_at s k h] at hu
  have e := enc1_pct _ hu
  have el : (enc1 s[k]).length = 3 := by rw [e]; rfl
  have b0 := at_byte s k h 0 (by omega)
  have b1 := at_byte s k h 1 (by omega)
  have b2 := at_byte s k h 2 (by omega)
  have hr := at_room s k h
  have hc := (s[k]).toNat_lt
  simp only [e] at b0 b1 b2
  have v1 := hexd_value ((s[k]).toNat / 16) (by omega)
  have v2 := hexd_value ((s[k]).toNat % 16) (by omega)
  refine ⟨b0, by rw [at_next s k h, el], by omega, ?_, ?_⟩
  · rw [bt_at s k h, b1]
    simpa using v1
  · rw [bt_at s k h, b2]
    simpa using v2

set_option maxHeartbeats 2000000 in
set_option maxRecDepth 100000 in
theorem canon_core (s : ByteArray) (h1 : s.size ≤ 1048576) (w : World) :
    Calls Try.prog 3 #[.string s] w fun e w' => e = .returned (.bool true) ∧ Below w.heap.size w w' := by
  have hd : decide (s.size ≤ 1048576) = true := by simpa using h1
  have hE := encB_bound s
  go_enter Try.func3, Try.ntmps3
  go_wp2_with (go_at_call 7; refine (bytes7 _ _ (by unfold maxLen; omega)).mono ?_; rintro e w' ⟨rfl, rfl⟩)
  go_wp2_with fail
  refine (zz_enc_is s (encB s) _ rfl (by omega)).mono ?_
  rintro e w1 ⟨rfl, b1⟩
  go_wp2_with fail
  go_loop [4, 5] (fun i j => ∃ k m : Nat, k ≤ s.size ∧ m ≤ (encB s).size ∧ i = .int .i64 m ∧ j = .int .i64 k ∧ Hid (at_ s k = m)) (fun i _ => (encB s).size - (intOf i).toNat)
  case atStart => exact ⟨0, 0, Nat.zero_le _, Nat.zero_le _, rfl, rfl, rfl⟩
  case round =>
    obtain ⟨k, m, hk, hm, rfl, rfl, HM⟩ := hrel
    by_cases hlt : m < (encB s).size
    · have hbt := PlainAid.get_bt s
      have hbe := PlainAid.get_bt (encB s)
      have hkl : k < s.size := at_more s k (by rw [HM.out]; exact hlt)
      by_cases hu : unr (PlainAid.bt s k) = true
      · have HU : Hid (unr (PlainAid.bt s k) = true) := hu
        clear hu
        have HF : Hid (PlainAid.bt (encB s) (at_ s k) = PlainAid.bt s k ∧ at_ s (k + 1) = at_ s k + 1 ∧ ¬ PlainAid.bt s k = 37) := bare_facts s k hkl HU.out
        have hv : PlainAid.bt (encB s) m = PlainAid.bt s k := by rw [← HM.out]; exact HF.out.1
        have hn : (PlainAid.bt s k == 37) = false := beq_false_of_ne HF.out.2.2
        go_wp2_with fail
        refine (unr_is _ true _ HU.out).mono ?_
        rintro e w2 ⟨rfl, rfl⟩
        go_wp2_with fail
        go_round
        case rel => exact ⟨k + 1, m + 1, by omega, by omega, by go_num, by go_num, by rw [← HM.out]; exact HF.out.2.1⟩
        case measure => simp [intOf]; omega
      · have HU : Hid (unr (PlainAid.bt s k) = false) := Bool.eq_false_iff.2 hu
        clear hu
        have HF : Hid _ := pct_facts s k hkl HU.out
        obtain ⟨f1, f2, f3, f4, f5⟩ := HF
        rw [HM.out] at f1 f2 f3 f4 f5
        have X1 : Hid _ := f4
        have X2 : Hid _ := f5
        have X3 : Hid _ := f2
        clear f4 f5 f2
        have hnib := nibbles _ (PlainAid.bt_nonneg s k) (PlainAid.bt_le s k)
        have hc0 := PlainAid.bt_nonneg s k
        have hc1 := PlainAid.bt_le s k
        go_wp2_with fail
        refine (hex_any _ _ _ X1.out).mono ?_
        rintro e w2 ⟨rfl, rfl⟩
        go_wp2_with fail
        refine (hex_any _ _ _ X2.out).mono ?_
        rintro e w3 ⟨rfl, rfl⟩
        go_wp2_with fail
        refine (unr_is _ false _ HU.out).mono ?_
        rintro e w4 ⟨rfl, rfl⟩
        go_wp2_with fail
        go_round
        case rel => exact ⟨k + 1, m + 3, by omega, by omega, by go_num, by go_num, X3.out⟩
        case measure => simp [intOf]; omega
    · have hend : k = s.size := at_end s k hk (by rw [HM.out]; omega)
      subst hend
      go_wp2_with fail
      go_ret
      exact ⟨rfl, b1⟩

theorem canon (s : ByteArray) (hs : s.size ≤ maxLen) (w : World) : Calls Try.prog 3 #[.string s] w fun e w' => e = .returned (.bool true) ∧ Below w.heap.size w w' := by
  by_cases h1 : s.size ≤ 1048576
  · exact canon_core s h1 w
  · have hd : decide (s.size ≤ 1048576) = false := by simpa using h1
    go_enter Try.func3, Try.ntmps3
    go_wp2_with (go_at_call 7; refine (bytes7 _ _ hs).mono ?_; rintro e w' ⟨rfl, rfl⟩)
    go_ret
    exact ⟨rfl, Below.refl _ _⟩
end Go.Proofs.Qxb6619500a
