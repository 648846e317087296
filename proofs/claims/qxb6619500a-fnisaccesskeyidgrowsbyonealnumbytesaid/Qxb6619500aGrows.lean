/-
  THE WALK OF FnIsAccessKeyIDGrowsByOneAlnumByte.
-/
import Derived.Test.Qxb6619500aAkid
import Derived.WalkLawsBesides
namespace Go.Proofs.Qxb6619500a
open Go.RowKit Plain

/-- The one-byte string of c. -/
def oneStr (c : Int) : ByteArray := ⟨#[UInt8.ofNat c.toNat]⟩

theorem conv_one (c : Int) (wx : World) : (convert 30 9 (.slice (some ⟨wx.heap.size, 0, none⟩) 1 1)).run Try.prog (wx.alloc (.cells #[.int .u8 c] 5)) = .ok (.string (oneStr c)) (wx.alloc (.cells #[.int .u8 c] 5)) := by
  rw [run_convert_bytes_string _ 30 9 5 _ _ _ Try.underlying30 Try.underlying5 Try.underlying9]
  rw [run_bytesToString _ _ 1 1 [c]]
  · rfl
  · simp [go_sem]

/-- isAccessKeyID, its answer under a name. -/
theorem zz_akid_is (s : ByteArray) (S : Bool) (w : World) (h : akid s.data.toList = S) (hs : s.size ≤ 2097152) : Calls Try.prog 13 #[.string s] w fun e w' => e = .returned (.bool S) ∧ Below w.heap.size w w' := by
  rw [← h]; exact zz_akid_any s w (by unfold maxLen; omega)
theorem alnum_is (c : Int) (A : Bool) (w : World) (h : alnum c = A) : Calls Try.prog 14 #[.int .u8 c] w fun e w' => e = .returned (.bool A) ∧ w' = w := by
  rw [← h]; exact alnum_any c w

theorem chain3 {w w1 w2 w3 : World} {o1 o2 : Obj} (b1 : Below (w.alloc o1).heap.size (w.alloc o1) w1) (b2 : Below w1.heap.size w1 w2) (b3 : Below (w2.alloc o2).heap.size (w2.alloc o2) w3) : Below w.heap.size w w3 := by
  have s1 := b1.size
  have s2 := b2.size
  simp only [World.size_alloc] at s1
  have c1 : Below w.heap.size w w1 := ((Below.refl w.heap.size w).alloc (Nat.le_refl _) o1).trans (b1.mono (by simp))
  have c2 : Below w.heap.size w w2 := c1.trans (b2.mono (by omega))
  exact (c2.alloc (by omega) o2).trans (b3.mono (by simp; omega))

set_option maxHeartbeats 1000000 in
/-- The road behind the bounds, the tests' answers under names. -/
theorem grows_core (a b : ByteArray) (c : Int) (S T A : Bool) (h1 : a.size ≤ 524288) (h2 : b.size ≤ 524288)
    (HS : Hid (akid (a ++ b).data.toList = S)) (HT : Hid (akid (a ++ oneStr c ++ b).data.toList = T)) (HO : Hid (akid (oneStr c).data.toList = A)) (HA : Hid (alnum c = A))
    (HR : Hid (T = (((a ++ b).toList.isEmpty || S) && A && decide ((a.size : Int) + (b.size : Int) < 128)))) (HZ : Hid ((a ++ b).toList.isEmpty = true → S = false)) (w : World) :
    Calls Try.prog 5 #[.string a, .string b, .int .u8 c] w fun e w' => e = .returned (.bool true) ∧ Below w.heap.size w w' := by
  have hd : decide (a.size + b.size ≤ 1048576) = true := by simp; omega
  have hcv := conv_one c
  have ho : (oneStr c).size ≤ 1 := Nat.le_refl _
  go_enter Try.func5, Try.ntmps5
  go_wp2_with (go_at_call 12; refine (bytes12 _ _ _ _ (by unfold maxLen; omega) (by unfold maxLen; omega)).mono ?_; rintro e w' ⟨rfl, rfl⟩)
  refine (zz_akid_is (a ++ b) S _ HS.out (by simp; omega)).mono ?_
  rintro e w1 ⟨rfl, b1⟩
  go_wp2_with (go_at_call 14; refine (alnum_is c A _ HA.out).mono ?_; rintro e w' ⟨rfl, rfl⟩)
  all_goals
    refine (zz_akid_is (a ++ oneStr c ++ b) T _ HT.out (by simp; omega)).mono ?_
    rintro e w2 ⟨rfl, b2⟩
    go_wp2_with fail
  all_goals try (exfalso; have r := HR.out; clear HS HT HO HA HR HZ; simp_all; done)
  all_goals
    refine (zz_akid_is (oneStr c) A _ HO.out (by omega)).mono ?_
    rintro e w3 ⟨rfl, b3⟩
    go_wp2_with (go_at_call 14; refine (alnum_is c A _ HA.out).mono ?_; rintro e w4 ⟨rfl, rfl⟩)
  all_goals try (exfalso; have r := HZ.out; clear HS HT HO HA HR HZ; simp_all; done)
  all_goals
    go_ret
    exact ⟨rfl, chain3 b1 b2 b3⟩

theorem grows (a b : ByteArray) (c : Int) (ha : a.size ≤ maxLen) (hb : b.size ≤ maxLen) (hc : 0 ≤ c ∧ c ≤ 255) (w : World) : Calls Try.prog 5 #[.string a, .string b, .int .u8 c] w fun e w' => e = .returned (.bool true) ∧ Below w.heap.size w w' := by
  by_cases hsum : a.size + b.size ≤ 1048576
  · have hd : decide (a.size + b.size ≤ 1048576) = true := by simpa using hsum
    by_cases h1 : a.size ≤ 524288
    · by_cases h2 : b.size ≤ 524288
      · refine grows_core a b c _ _ _ h1 h2 rfl rfl ?_ rfl ?_ ?_ w
        · exact (akid_one _).trans (congrArg alnum (by rw [UInt8.toNat_ofNat']; omega))
        · have e := akid_grow a.data.toList b.data.toList (UInt8.ofNat c.toNat)
          have ec : (((UInt8.ofNat c.toNat).toNat : Nat) : Int) = c := by rw [UInt8.toNat_ofNat']; omega
          rw [ec] at e
          have el : (a ++ b).toList = a.data.toList ++ b.data.toList := by rw [ByteArray.toList_eq]; simp
          have ed : (a ++ b).data.toList = a.data.toList ++ b.data.toList := by simp
          have et : (a ++ oneStr c ++ b).data.toList = a.data.toList ++ [UInt8.ofNat c.toNat] ++ b.data.toList := by simp [oneStr]
          have en : decide ((a.data.toList ++ b.data.toList).length < 128) = decide ((a.size : Int) + (b.size : Int) < 128) := by
            have : (a.data.toList ++ b.data.toList).length = a.size + b.size := by simp
            rw [this, Bool.eq_iff_iff]; simp only [decide_eq_true_eq]; omega
          show _ = _
          rw [et, e, el, ed, en]
        · intro h
          rw [ByteArray.toList_eq] at h
          rw [List.isEmpty_iff.1 h]; rfl
      · go_enter Try.func5, Try.ntmps5
        go_wp2_with (go_at_call 12; refine (bytes12 _ _ _ _ ha hb).mono ?_; rintro e w' ⟨rfl, rfl⟩)
        go_ret
        exact ⟨rfl, Below.refl _ _⟩
    · go_enter Try.func5, Try.ntmps5
      go_wp2_with (go_at_call 12; refine (bytes12 _ _ _ _ ha hb).mono ?_; rintro e w' ⟨rfl, rfl⟩)
      go_ret
      exact ⟨rfl, Below.refl _ _⟩
  · have hd : decide (a.size + b.size ≤ 1048576) = false := by simpa using hsum
    go_enter Try.func5, Try.ntmps5
    go_wp2_with (go_at_call 12; refine (bytes12 _ _ _ _ ha hb).mono ?_; rintro e w' ⟨rfl, rfl⟩)
    go_ret
    exact ⟨rfl, Below.refl _ _⟩
end Go.Proofs.Qxb6619500a
