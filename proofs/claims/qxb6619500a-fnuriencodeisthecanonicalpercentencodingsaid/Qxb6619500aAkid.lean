/-
  THE CONTRACT OF isAccessKeyID AND OF ZZIsAccessKeyID: every string.
-/
import Derived.Test.Qxb6619500aSmall
import Derived.Laws.RangeAny
namespace Go.Proofs.Qxb6619500a
open Go.RowKit Plain

theorem take_snoc (s : ByteArray) (k : Nat) (h : k < s.size) : s.data.toList.take (k + 1) = s.data.toList.take k ++ [s[k]] := by
  rw [List.take_succ_eq_append_getElem (by simpa using h)]; rfl

theorem all_next (s : ByteArray) (k : Nat) (h : k < s.size) (p : UInt8 → Bool) (ha : (s.data.toList.take k).all p = true) (hp : p s[k] = true) : (s.data.toList.take (k + 1)).all p = true := by
  rw [take_snoc s k h, List.all_append, ha]; simp [hp]

theorem not_all_at (s : ByteArray) (k : Nat) (h : k < s.size) (p : UInt8 → Bool) (hp : p s[k] = false) : s.data.toList.all p = false := by
  rw [List.all_eq_false]
  exact ⟨s[k], by show s.data.toList[k]'(by simpa using h) ∈ _; exact List.getElem_mem _, by simp [hp]⟩

theorem alnum_false (c : Int) (h : ¬ ((65 ≤ c ∧ c ≤ 90) ∨ (97 ≤ c ∧ c ≤ 122) ∨ (48 ≤ c ∧ c ≤ 57))) : alnum c = false := by
  cases e : alnum c with
  | false => rfl
  | true => exact absurd ((alnum_iff c).1 e) h

theorem akid_empty (s : ByteArray) (h : s.toList = []) : akid s.data.toList = false := by
  rw [ByteArray.toList_eq] at h; rw [h]; rfl
theorem akid_long (s : ByteArray) (h : 128 < (s.size : Int)) : akid s.data.toList = false := by
  have : ¬ s.data.toList.length ≤ 128 := by show ¬ s.size ≤ 128; omega
  simp only [akid, this, decide_false, Bool.and_false, Bool.false_and]
theorem akid_fits (s : ByteArray) (h : ¬ s.toList = []) (h2 : (s.size : Int) ≤ 128) : akid s.data.toList = s.data.toList.all (fun c => alnum c.toNat) := by
  rw [ByteArray.toList_eq] at h
  have h1 : s.data.toList.length ≤ 128 := by show s.size ≤ 128; omega
  have h3 : s.data.toList.isEmpty = false := by simpa using h
  simp only [akid, h1, h3, decide_true, Bool.not_false, Bool.true_and]

set_option maxHeartbeats 1000000 in
theorem akid_any (s : ByteArray) (w : World) (hs : s.size ≤ maxLen) : Calls Try.prog 17 #[.string s] w fun e w' => e = .returned (.bool (akid s.data.toList)) ∧ Below w.heap.size w w' := by
  unfold maxLen at hs
  by_cases he : s.toList = []
  · go_enter Try.func17, Try.ntmps17
    go_wp2
    go_ret
    exact ⟨ret_bool (akid_empty s he).symm, Below.refl _ _⟩
  · have he' : s.toList.isEmpty = false := by simpa using he
    by_cases hl : 128 < (s.size : Int)
    · go_enter Try.func17, Try.ntmps17
      go_wp2
      go_ret
      exact ⟨ret_bool (akid_long s hl).symm, Below.refl _ _⟩
    · have hl' : (s.size : Int) ≤ 128 := by omega
      have HS : Hid (akid s.data.toList = s.data.toList.all (fun c => alnum c.toNat)) := akid_fits s he hl'
      go_enter Try.func17, Try.ntmps17
      go_wp2
      go_loopw [] (fun wr => ∃ pos : Nat, pos ≤ s.size ∧ wr = w.iter s pos ∧ Hid ((s.data.toList.take pos).all (fun c => alnum c.toNat) = true)) (fun wr => s.size - wr.iterPos w.heap.size)
      case atStart => exact ⟨0, Nat.zero_le _, rfl, rfl⟩
      case round =>
        obtain ⟨pos, hpos, rfl, HA⟩ := hrel
        by_cases hp : pos < s.size
        · by_cases ha : (s[pos]'hp).toNat < 128
          · have hnx : ∀ ty, (Instr.next (.pointer (some ⟨w.heap.size, 0, none⟩)) true ty).run Try.prog (w.iter s pos) = _ := fun ty => run_next_ascii w s pos ty hp ha
            go_wp2
            all_goals first
              | (go_ret
                 refine ⟨ret_bool ?_, (Below.refl _ _).alloc (Nat.le_refl _) _⟩
                 rw [HS.out]
                 exact (not_all_at s pos hp _ (alnum_false _ (by omega))).symm)
              | (go_roundw
                 case rel => exact ⟨pos + 1, by omega, rfl, all_next s pos hp _ HA.out ((alnum_iff _).2 (by omega))⟩
                 case measure => simp; omega)
          · obtain ⟨r, wd, hr, hnx⟩ : ∃ (r : Int) (wd : Nat), 128 ≤ r ∧ ∀ ty, (Instr.next (.pointer (some ⟨w.heap.size, 0, none⟩)) true ty).run Try.prog (w.iter s pos) = .ok (.tuple #[.bool true, .int .i64 pos, .int .i32 r]) (w.iter s (pos + wd)) :=
              ⟨((Utf8.decode s pos).1 : Nat), (Utf8.decode s pos).2, by have := (decode_high s pos hp (by omega)).1; omega, fun ty => run_next_any w s pos ty hp⟩
            have hr1 : ¬ r < 65 := by omega
            have hr2 : ¬ r < 97 := by omega
            have hr3 : ¬ r < 48 := by omega
            go_wp2
            go_ret
            refine ⟨ret_bool ?_, (Below.refl _ _).alloc (Nat.le_refl _) _⟩
            rw [HS.out]
            exact (not_all_at s pos hp _ (alnum_false _ (by omega))).symm
        · have hnx : ∀ ty, (Instr.next (.pointer (some ⟨w.heap.size, 0, none⟩)) true ty).run Try.prog (w.iter s pos) = _ := fun ty => run_next_end w s pos ty hp
          go_wp2
          go_ret
          refine ⟨ret_bool ?_, (Below.refl _ _).alloc (Nat.le_refl _) _⟩
          rw [HS.out, ← HA.out, List.take_of_length_le (by show s.size ≤ pos; omega)]

set_option maxHeartbeats 400000 in
theorem zz_akid_any (s : ByteArray) (w : World) (hs : s.size ≤ maxLen) : Calls Try.prog 13 #[.string s] w fun e w' => e = .returned (.bool (akid s.data.toList)) ∧ Below w.heap.size w w' := by
  go_enter Try.func13, Try.ntmps13
  go_wp2_with (go_at_call 17; refine (akid_any _ _ hs).mono ?_)
  rintro e w' ⟨rfl, hb⟩
  go_wp2
  go_ret
  exact ⟨rfl, hb⟩
end Go.Proofs.Qxb6619500a
