/-
  THE CONTRACT OF uriEncode AND OF ZZUriEncode: every string of at most 2^21 bytes.
-/
import Derived.Test.Qxb6619500aAkid
import Derived.Test.Qxb6619500aBuilder
import Derived.PlainAid
set_option linter.unusedVariables false
namespace Go.Proofs.Qxb6619500a
open Go.RowKit Plain

theorem hex_fin : ∀ n : Fin 16, (#[48, 49, 50, 51, 52, 53, 54, 55, 56, 57, 65, 66, 67, 68, 69, 70] : Array UInt8)[n.val]'(by simp) = hexd n.val := by decide
/-- The digits' string, at a number below 16. -/
theorem hex_at (n : Nat) (h : n < (ByteArray.mk #[48, 49, 50, 51, 52, 53, 54, 55, 56, 57, 65, 66, 67, 68, 69, 70]).size) : (ByteArray.mk #[48, 49, 50, 51, 52, 53, 54, 55, 56, 57, 65, 66, 67, 68, 69, 70])[n]'h = hexd n := hex_fin ⟨n, h⟩

theorem bt_at (s : ByteArray) (k : Nat) (h : k < s.size) : PlainAid.bt s k = ((s[k]'h).toNat : Int) := (PlainAid.get_bt s k h).symm

theorem cells_bare (s : ByteArray) (k : Nat) (h : k < s.size) (hu : unr (PlainAid.bt s k) = true) :
    Lib.byteCells (enc (s.data.toList.take (k + 1))) = Lib.byteCells (enc (s.data.toList.take k)) ++ [.int .u8 (PlainAid.bt s k)] := by
  rw [take_snoc s k h, enc_snoc, Lib.byteCells_append]
  rw [bt_at s k h] at hu ⊢
  simp only [enc1, hu, if_true]; rfl

theorem cells_pct (s : ByteArray) (k : Nat) (h : k < s.size) (hu : unr (PlainAid.bt s k) = false) (p : (PlainAid.bt s k / 16).toNat < (ByteArray.mk #[48, 49, 50, 51, 52, 53, 54, 55, 56, 57, 65, 66, 67, 68, 69, 70]).size) (q : (PlainAid.bt s k % 16).toNat < (ByteArray.mk #[48, 49, 50, 51, 52, 53, 54, 55, 56, 57, 65, 66, 67, 68, 69, 70]).size) :
    Lib.byteCells (enc (s.data.toList.take (k + 1))) = Lib.byteCells (enc (s.data.toList.take k)) ++ [.int .u8 37] ++ [.int .u8 (((ByteArray.mk #[48, 49, 50, 51, 52, 53, 54, 55, 56, 57, 65, 66, 67, 68, 69, 70])[(PlainAid.bt s k / 16).toNat]'p).toNat)] ++ [.int .u8 (((ByteArray.mk #[48, 49, 50, 51, 52, 53, 54, 55, 56, 57, 65, 66, 67, 68, 69, 70])[(PlainAid.bt s k % 16).toNat]'q).toNat)] := by
  rw [hex_at _ p, hex_at _ q, take_snoc s k h, enc_snoc, Lib.byteCells_append]
  rw [bt_at s k h] at hu ⊢
  have e1 : (((s[k]'h).toNat : Int) / 16).toNat = (s[k]'h).toNat / 16 := by omega
  have e2 : (((s[k]'h).toNat : Int) % 16).toNat = (s[k]'h).toNat % 16 := by omega
  have hf : ¬ unr ((s[k]'h).toNat : Int) = true := by simp [hu]
  rw [e1, e2]
  simp only [enc1, hf]
  simp [Lib.byteCells]

theorem unr_no (c : Int) (h : ¬ (((65 ≤ c ∧ c ≤ 90) ∨ (97 ≤ c ∧ c ≤ 122) ∨ (48 ≤ c ∧ c ≤ 57)) ∨ c = 45 ∨ c = 95 ∨ c = 46 ∨ c = 126)) : unr c = false := by
  cases e : unr c with
  | false => rfl
  | true => exact absurd ((unr_iff c).1 e) h

/-- Where a byte lies: fourteen pieces. -/
theorem pieces (c : Int) (h0 : 0 ≤ c) (h1 : c ≤ 255) :
    (65 ≤ c ∧ c ≤ 90) ∨ (97 ≤ c ∧ c ≤ 122) ∨ (48 ≤ c ∧ c ≤ 57) ∨ (45 ≤ c ∧ c ≤ 45) ∨ (95 ≤ c ∧ c ≤ 95) ∨ (46 ≤ c ∧ c ≤ 46) ∨ (126 ≤ c ∧ c ≤ 126) ∨ (0 ≤ c ∧ c ≤ 44) ∨ (47 ≤ c ∧ c ≤ 47) ∨ (58 ≤ c ∧ c ≤ 64) ∨ (91 ≤ c ∧ c ≤ 94) ∨ (96 ≤ c ∧ c ≤ 96) ∨ (123 ≤ c ∧ c ≤ 125) ∨ (127 ≤ c ∧ c ≤ 255) := by omega

set_option maxHeartbeats 4000000 in
theorem enc_any (s : ByteArray) (w : World) (hs : s.size ≤ 2097152) : Calls Try.prog 16 #[.string s] w fun e w' => e = .returned (.string ⟨(enc s.data.toList).toArray⟩) ∧ Below w.heap.size w w' := by
  go_enter Try.func16, Try.ntmps16
  go_wp2
  go_loopw [4] (fun i wr => ∃ k : Nat, k ≤ s.size ∧ i = .int .i64 k ∧ Lib.IsBuilder 33 5 w.heap.size w.heap.size (Lib.byteCells (enc (s.data.toList.take k))) wr ∧ Below w.heap.size w wr) (fun i _ => s.size - (intOf i).toNat)
  case atStart => exact ⟨0, Nat.zero_le _, rfl, Lib.fresh_isBuilder 33 5 w, (Below.refl _ w).alloc (Nat.le_refl _) _⟩
  case round =>
    obtain ⟨k, hk, rfl, hI, hbw⟩ := hrel
    by_cases hlt : k < s.size
    · have hbt := PlainAid.get_bt s
      have hlen : (Lib.byteCells (enc (s.data.toList.take k))).length + 3 ≤ 140737488355328 := by
        rw [Lib.byteCells_length]
        have := (enc_bound (s.data.toList.take k)).2
        have : (s.data.toList.take k).length ≤ k := List.length_take_le _ _
        omega
      rcases pieces _ (PlainAid.bt_nonneg s k) (PlainAid.bt_le s k) with ⟨lo, hi⟩ | ⟨lo, hi⟩ | ⟨lo, hi⟩ | ⟨lo, hi⟩ | ⟨lo, hi⟩ | ⟨lo, hi⟩ | ⟨lo, hi⟩ | ⟨lo, hi⟩ | ⟨lo, hi⟩ | ⟨lo, hi⟩ | ⟨lo, hi⟩ | ⟨lo, hi⟩ | ⟨lo, hi⟩ | ⟨lo, hi⟩
      · have HU : Hid (unr (PlainAid.bt s k) = true) := (unr_iff _).2 (by omega)
        have f1 : 65 ≤ PlainAid.bt s k := by omega
        have f2 : PlainAid.bt s k ≤ 90 := by omega
        have f3 : ¬ 97 ≤ PlainAid.bt s k := by omega
        have f4 : PlainAid.bt s k ≤ 122 := by omega
        have f5 : 48 ≤ PlainAid.bt s k := by omega
        have f6 : ¬ PlainAid.bt s k ≤ 57 := by omega
        have g1 : (PlainAid.bt s k == 45) = false := beq_false_of_ne (by omega)
        have g2 : (PlainAid.bt s k == 95) = false := beq_false_of_ne (by omega)
        have g3 : (PlainAid.bt s k == 46) = false := beq_false_of_ne (by omega)
        have g4 : (PlainAid.bt s k == 126) = false := beq_false_of_ne (by omega)
        go_wp2_with fail
        refine (bld_write w.heap.size w.heap.size _ _ _ hI (by omega) (by have := hbw.size; omega)).mono ?_
        rintro e W1 ⟨rfl, h1, b1⟩
        go_wp2_with fail
        go_roundw
        case rel => exact ⟨k + 1, by omega, by go_num, Or.inr (by rw [cells_bare s k hlt HU.out]; exact h1), hbw.trans b1⟩
        case measure => simp [intOf]; omega
      · have HU : Hid (unr (PlainAid.bt s k) = true) := (unr_iff _).2 (by omega)
        have f1 : 65 ≤ PlainAid.bt s k := by omega
        have f2 : ¬ PlainAid.bt s k ≤ 90 := by omega
        have f3 : 97 ≤ PlainAid.bt s k := by omega
        have f4 : PlainAid.bt s k ≤ 122 := by omega
        have f5 : 48 ≤ PlainAid.bt s k := by omega
        have f6 : ¬ PlainAid.bt s k ≤ 57 := by omega
        have g1 : (PlainAid.bt s k == 45) = false := beq_false_of_ne (by omega)
        have g2 : (PlainAid.bt s k == 95) = false := beq_false_of_ne (by omega)
        have g3 : (PlainAid.bt s k == 46) = false := beq_false_of_ne (by omega)
        have g4 : (PlainAid.bt s k == 126) = false := beq_false_of_ne (by omega)
        go_wp2_with fail
        refine (bld_write w.heap.size w.heap.size _ _ _ hI (by omega) (by have := hbw.size; omega)).mono ?_
        rintro e W1 ⟨rfl, h1, b1⟩
        go_wp2_with fail
        go_roundw
        case rel => exact ⟨k + 1, by omega, by go_num, Or.inr (by rw [cells_bare s k hlt HU.out]; exact h1), hbw.trans b1⟩
        case measure => simp [intOf]; omega
      · have HU : Hid (unr (PlainAid.bt s k) = true) := (unr_iff _).2 (by omega)
        have f1 : ¬ 65 ≤ PlainAid.bt s k := by omega
        have f2 : PlainAid.bt s k ≤ 90 := by omega
        have f3 : ¬ 97 ≤ PlainAid.bt s k := by omega
        have f4 : PlainAid.bt s k ≤ 122 := by omega
        have f5 : 48 ≤ PlainAid.bt s k := by omega
        have f6 : PlainAid.bt s k ≤ 57 := by omega
        have g1 : (PlainAid.bt s k == 45) = false := beq_false_of_ne (by omega)
        have g2 : (PlainAid.bt s k == 95) = false := beq_false_of_ne (by omega)
        have g3 : (PlainAid.bt s k == 46) = false := beq_false_of_ne (by omega)
        have g4 : (PlainAid.bt s k == 126) = false := beq_false_of_ne (by omega)
        go_wp2_with fail
        refine (bld_write w.heap.size w.heap.size _ _ _ hI (by omega) (by have := hbw.size; omega)).mono ?_
        rintro e W1 ⟨rfl, h1, b1⟩
        go_wp2_with fail
        go_roundw
        case rel => exact ⟨k + 1, by omega, by go_num, Or.inr (by rw [cells_bare s k hlt HU.out]; exact h1), hbw.trans b1⟩
        case measure => simp [intOf]; omega
      · have HU : Hid (unr (PlainAid.bt s k) = true) := (unr_iff _).2 (by omega)
        have HE : Hid (PlainAid.bt s k = 45) := show _ = _ from by omega
        have f1 : ¬ 65 ≤ PlainAid.bt s k := by omega
        have f2 : PlainAid.bt s k ≤ 90 := by omega
        have f3 : ¬ 97 ≤ PlainAid.bt s k := by omega
        have f4 : PlainAid.bt s k ≤ 122 := by omega
        have f5 : ¬ 48 ≤ PlainAid.bt s k := by omega
        have f6 : PlainAid.bt s k ≤ 57 := by omega
        have g2 : (PlainAid.bt s k == 95) = false := beq_false_of_ne (by omega)
        have g3 : (PlainAid.bt s k == 46) = false := beq_false_of_ne (by omega)
        have g4 : (PlainAid.bt s k == 126) = false := beq_false_of_ne (by omega)
        go_wp2_with fail
        refine (bld_write w.heap.size w.heap.size _ _ _ hI (by omega) (by have := hbw.size; omega)).mono ?_
        rintro e W1 ⟨rfl, h1, b1⟩
        go_wp2_with fail
        go_roundw
        case rel => exact ⟨k + 1, by omega, by go_num, Or.inr (by rw [cells_bare s k hlt HU.out]; rw [HE.out]; exact h1), hbw.trans b1⟩
        case measure => simp [intOf]; omega
      · have HU : Hid (unr (PlainAid.bt s k) = true) := (unr_iff _).2 (by omega)
        have HE : Hid (PlainAid.bt s k = 95) := show _ = _ from by omega
        have f1 : 65 ≤ PlainAid.bt s k := by omega
        have f2 : ¬ PlainAid.bt s k ≤ 90 := by omega
        have f3 : ¬ 97 ≤ PlainAid.bt s k := by omega
        have f4 : PlainAid.bt s k ≤ 122 := by omega
        have f5 : 48 ≤ PlainAid.bt s k := by omega
        have f6 : ¬ PlainAid.bt s k ≤ 57 := by omega
        have g1 : (PlainAid.bt s k == 45) = false := beq_false_of_ne (by omega)
        have g3 : (PlainAid.bt s k == 46) = false := beq_false_of_ne (by omega)
        have g4 : (PlainAid.bt s k == 126) = false := beq_false_of_ne (by omega)
        go_wp2_with fail
        refine (bld_write w.heap.size w.heap.size _ _ _ hI (by omega) (by have := hbw.size; omega)).mono ?_
        rintro e W1 ⟨rfl, h1, b1⟩
        go_wp2_with fail
        go_roundw
        case rel => exact ⟨k + 1, by omega, by go_num, Or.inr (by rw [cells_bare s k hlt HU.out]; rw [HE.out]; exact h1), hbw.trans b1⟩
        case measure => simp [intOf]; omega
      · have HU : Hid (unr (PlainAid.bt s k) = true) := (unr_iff _).2 (by omega)
        have HE : Hid (PlainAid.bt s k = 46) := show _ = _ from by omega
        have f1 : ¬ 65 ≤ PlainAid.bt s k := by omega
        have f2 : PlainAid.bt s k ≤ 90 := by omega
        have f3 : ¬ 97 ≤ PlainAid.bt s k := by omega
        have f4 : PlainAid.bt s k ≤ 122 := by omega
        have f5 : ¬ 48 ≤ PlainAid.bt s k := by omega
        have f6 : PlainAid.bt s k ≤ 57 := by omega
        have g1 : (PlainAid.bt s k == 45) = false := beq_false_of_ne (by omega)
        have g2 : (PlainAid.bt s k == 95) = false := beq_false_of_ne (by omega)
        have g4 : (PlainAid.bt s k == 126) = false := beq_false_of_ne (by omega)
        go_wp2_with fail
        refine (bld_write w.heap.size w.heap.size _ _ _ hI (by omega) (by have := hbw.size; omega)).mono ?_
        rintro e W1 ⟨rfl, h1, b1⟩
        go_wp2_with fail
        go_roundw
        case rel => exact ⟨k + 1, by omega, by go_num, Or.inr (by rw [cells_bare s k hlt HU.out]; rw [HE.out]; exact h1), hbw.trans b1⟩
        case measure => simp [intOf]; omega
      · have HU : Hid (unr (PlainAid.bt s k) = true) := (unr_iff _).2 (by omega)
        have f1 : 65 ≤ PlainAid.bt s k := by omega
        have f2 : ¬ PlainAid.bt s k ≤ 90 := by omega
        have f3 : 97 ≤ PlainAid.bt s k := by omega
        have f4 : ¬ PlainAid.bt s k ≤ 122 := by omega
        have f5 : 48 ≤ PlainAid.bt s k := by omega
        have f6 : ¬ PlainAid.bt s k ≤ 57 := by omega
        have g1 : (PlainAid.bt s k == 45) = false := beq_false_of_ne (by omega)
        have g2 : (PlainAid.bt s k == 95) = false := beq_false_of_ne (by omega)
        have g3 : (PlainAid.bt s k == 46) = false := beq_false_of_ne (by omega)
        go_wp2_with fail
        refine (bld_write w.heap.size w.heap.size _ _ _ hI (by omega) (by have := hbw.size; omega)).mono ?_
        rintro e W1 ⟨rfl, h1, b1⟩
        go_wp2_with fail
        go_roundw
        case rel => exact ⟨k + 1, by omega, by go_num, Or.inr (by rw [cells_bare s k hlt HU.out]; exact h1), hbw.trans b1⟩
        case measure => simp [intOf]; omega
      · have HU : Hid (unr (PlainAid.bt s k) = false) := unr_no _ (by omega)
        have f1 : ¬ 65 ≤ PlainAid.bt s k := by omega
        have f2 : PlainAid.bt s k ≤ 90 := by omega
        have f3 : ¬ 97 ≤ PlainAid.bt s k := by omega
        have f4 : PlainAid.bt s k ≤ 122 := by omega
        have f5 : ¬ 48 ≤ PlainAid.bt s k := by omega
        have f6 : PlainAid.bt s k ≤ 57 := by omega
        have g1 : (PlainAid.bt s k == 45) = false := beq_false_of_ne (by omega)
        have g2 : (PlainAid.bt s k == 95) = false := beq_false_of_ne (by omega)
        have g3 : (PlainAid.bt s k == 46) = false := beq_false_of_ne (by omega)
        have g4 : (PlainAid.bt s k == 126) = false := beq_false_of_ne (by omega)
        go_wp2_with fail
        refine (bld_write w.heap.size w.heap.size _ _ _ hI (by omega) (by have := hbw.size; omega)).mono ?_
        rintro e W1 ⟨rfl, h1, b1⟩
        go_wp2_with fail
        refine (bld_write w.heap.size w.heap.size _ _ _ (Or.inr h1) (by simp; omega) (by have := hbw.size; have := b1.size; omega)).mono ?_
        rintro e W2 ⟨rfl, h2, b2⟩
        go_wp2_with fail
        refine (bld_write w.heap.size w.heap.size _ _ _ (Or.inr h2) (by simp; omega) (by have := hbw.size; have := b1.size; have := b2.size; omega)).mono ?_
        rintro e W3 ⟨rfl, h3, b3⟩
        go_wp2_with fail
        go_roundw
        case rel => exact ⟨k + 1, by omega, by go_num, Or.inr (by rw [cells_pct s k hlt HU.out (by show _ < 16; omega) (by show _ < 16; omega)]; exact h3), ((hbw.trans b1).trans b2).trans b3⟩
        case measure => simp [intOf]; omega
      · have HU : Hid (unr (PlainAid.bt s k) = false) := unr_no _ (by omega)
        have f1 : ¬ 65 ≤ PlainAid.bt s k := by omega
        have f2 : PlainAid.bt s k ≤ 90 := by omega
        have f3 : ¬ 97 ≤ PlainAid.bt s k := by omega
        have f4 : PlainAid.bt s k ≤ 122 := by omega
        have f5 : ¬ 48 ≤ PlainAid.bt s k := by omega
        have f6 : PlainAid.bt s k ≤ 57 := by omega
        have g1 : (PlainAid.bt s k == 45) = false := beq_false_of_ne (by omega)
        have g2 : (PlainAid.bt s k == 95) = false := beq_false_of_ne (by omega)
        have g3 : (PlainAid.bt s k == 46) = false := beq_false_of_ne (by omega)
        have g4 : (PlainAid.bt s k == 126) = false := beq_false_of_ne (by omega)
        go_wp2_with fail
        refine (bld_write w.heap.size w.heap.size _ _ _ hI (by omega) (by have := hbw.size; omega)).mono ?_
        rintro e W1 ⟨rfl, h1, b1⟩
        go_wp2_with fail
        refine (bld_write w.heap.size w.heap.size _ _ _ (Or.inr h1) (by simp; omega) (by have := hbw.size; have := b1.size; omega)).mono ?_
        rintro e W2 ⟨rfl, h2, b2⟩
        go_wp2_with fail
        refine (bld_write w.heap.size w.heap.size _ _ _ (Or.inr h2) (by simp; omega) (by have := hbw.size; have := b1.size; have := b2.size; omega)).mono ?_
        rintro e W3 ⟨rfl, h3, b3⟩
        go_wp2_with fail
        go_roundw
        case rel => exact ⟨k + 1, by omega, by go_num, Or.inr (by rw [cells_pct s k hlt HU.out (by show _ < 16; omega) (by show _ < 16; omega)]; exact h3), ((hbw.trans b1).trans b2).trans b3⟩
        case measure => simp [intOf]; omega
      · have HU : Hid (unr (PlainAid.bt s k) = false) := unr_no _ (by omega)
        have f1 : ¬ 65 ≤ PlainAid.bt s k := by omega
        have f2 : PlainAid.bt s k ≤ 90 := by omega
        have f3 : ¬ 97 ≤ PlainAid.bt s k := by omega
        have f4 : PlainAid.bt s k ≤ 122 := by omega
        have f5 : 48 ≤ PlainAid.bt s k := by omega
        have f6 : ¬ PlainAid.bt s k ≤ 57 := by omega
        have g1 : (PlainAid.bt s k == 45) = false := beq_false_of_ne (by omega)
        have g2 : (PlainAid.bt s k == 95) = false := beq_false_of_ne (by omega)
        have g3 : (PlainAid.bt s k == 46) = false := beq_false_of_ne (by omega)
        have g4 : (PlainAid.bt s k == 126) = false := beq_false_of_ne (by omega)
        go_wp2_with fail
        refine (bld_write w.heap.size w.heap.size _ _ _ hI (by omega) (by have := hbw.size; omega)).mono ?_
        rintro e W1 ⟨rfl, h1, b1⟩
        go_wp2_with fail
        refine (bld_write w.heap.size w.heap.size _ _ _ (Or.inr h1) (by simp; omega) (by have := hbw.size; have := b1.size; omega)).mono ?_
        rintro e W2 ⟨rfl, h2, b2⟩
        go_wp2_with fail
        refine (bld_write w.heap.size w.heap.size _ _ _ (Or.inr h2) (by simp; omega) (by have := hbw.size; have := b1.size; have := b2.size; omega)).mono ?_
        rintro e W3 ⟨rfl, h3, b3⟩
        go_wp2_with fail
        go_roundw
        case rel => exact ⟨k + 1, by omega, by go_num, Or.inr (by rw [cells_pct s k hlt HU.out (by show _ < 16; omega) (by show _ < 16; omega)]; exact h3), ((hbw.trans b1).trans b2).trans b3⟩
        case measure => simp [intOf]; omega
      · have HU : Hid (unr (PlainAid.bt s k) = false) := unr_no _ (by omega)
        have f1 : 65 ≤ PlainAid.bt s k := by omega
        have f2 : ¬ PlainAid.bt s k ≤ 90 := by omega
        have f3 : ¬ 97 ≤ PlainAid.bt s k := by omega
        have f4 : PlainAid.bt s k ≤ 122 := by omega
        have f5 : 48 ≤ PlainAid.bt s k := by omega
        have f6 : ¬ PlainAid.bt s k ≤ 57 := by omega
        have g1 : (PlainAid.bt s k == 45) = false := beq_false_of_ne (by omega)
        have g2 : (PlainAid.bt s k == 95) = false := beq_false_of_ne (by omega)
        have g3 : (PlainAid.bt s k == 46) = false := beq_false_of_ne (by omega)
        have g4 : (PlainAid.bt s k == 126) = false := beq_false_of_ne (by omega)
        go_wp2_with fail
        refine (bld_write w.heap.size w.heap.size _ _ _ hI (by omega) (by have := hbw.size; omega)).mono ?_
        rintro e W1 ⟨rfl, h1, b1⟩
        go_wp2_with fail
        refine (bld_write w.heap.size w.heap.size _ _ _ (Or.inr h1) (by simp; omega) (by have := hbw.size; have := b1.size; omega)).mono ?_
        rintro e W2 ⟨rfl, h2, b2⟩
        go_wp2_with fail
        refine (bld_write w.heap.size w.heap.size _ _ _ (Or.inr h2) (by simp; omega) (by have := hbw.size; have := b1.size; have := b2.size; omega)).mono ?_
        rintro e W3 ⟨rfl, h3, b3⟩
        go_wp2_with fail
        go_roundw
        case rel => exact ⟨k + 1, by omega, by go_num, Or.inr (by rw [cells_pct s k hlt HU.out (by show _ < 16; omega) (by show _ < 16; omega)]; exact h3), ((hbw.trans b1).trans b2).trans b3⟩
        case measure => simp [intOf]; omega
      · have HU : Hid (unr (PlainAid.bt s k) = false) := unr_no _ (by omega)
        have f1 : 65 ≤ PlainAid.bt s k := by omega
        have f2 : ¬ PlainAid.bt s k ≤ 90 := by omega
        have f3 : ¬ 97 ≤ PlainAid.bt s k := by omega
        have f4 : PlainAid.bt s k ≤ 122 := by omega
        have f5 : 48 ≤ PlainAid.bt s k := by omega
        have f6 : ¬ PlainAid.bt s k ≤ 57 := by omega
        have g1 : (PlainAid.bt s k == 45) = false := beq_false_of_ne (by omega)
        have g2 : (PlainAid.bt s k == 95) = false := beq_false_of_ne (by omega)
        have g3 : (PlainAid.bt s k == 46) = false := beq_false_of_ne (by omega)
        have g4 : (PlainAid.bt s k == 126) = false := beq_false_of_ne (by omega)
        go_wp2_with fail
        refine (bld_write w.heap.size w.heap.size _ _ _ hI (by omega) (by have := hbw.size; omega)).mono ?_
        rintro e W1 ⟨rfl, h1, b1⟩
        go_wp2_with fail
        refine (bld_write w.heap.size w.heap.size _ _ _ (Or.inr h1) (by simp; omega) (by have := hbw.size; have := b1.size; omega)).mono ?_
        rintro e W2 ⟨rfl, h2, b2⟩
        go_wp2_with fail
        refine (bld_write w.heap.size w.heap.size _ _ _ (Or.inr h2) (by simp; omega) (by have := hbw.size; have := b1.size; have := b2.size; omega)).mono ?_
        rintro e W3 ⟨rfl, h3, b3⟩
        go_wp2_with fail
        go_roundw
        case rel => exact ⟨k + 1, by omega, by go_num, Or.inr (by rw [cells_pct s k hlt HU.out (by show _ < 16; omega) (by show _ < 16; omega)]; exact h3), ((hbw.trans b1).trans b2).trans b3⟩
        case measure => simp [intOf]; omega
      · have HU : Hid (unr (PlainAid.bt s k) = false) := unr_no _ (by omega)
        have f1 : 65 ≤ PlainAid.bt s k := by omega
        have f2 : ¬ PlainAid.bt s k ≤ 90 := by omega
        have f3 : 97 ≤ PlainAid.bt s k := by omega
        have f4 : ¬ PlainAid.bt s k ≤ 122 := by omega
        have f5 : 48 ≤ PlainAid.bt s k := by omega
        have f6 : ¬ PlainAid.bt s k ≤ 57 := by omega
        have g1 : (PlainAid.bt s k == 45) = false := beq_false_of_ne (by omega)
        have g2 : (PlainAid.bt s k == 95) = false := beq_false_of_ne (by omega)
        have g3 : (PlainAid.bt s k == 46) = false := beq_false_of_ne (by omega)
        have g4 : (PlainAid.bt s k == 126) = false := beq_false_of_ne (by omega)
        go_wp2_with fail
        refine (bld_write w.heap.size w.heap.size _ _ _ hI (by omega) (by have := hbw.size; omega)).mono ?_
        rintro e W1 ⟨rfl, h1, b1⟩
        go_wp2_with fail
        refine (bld_write w.heap.size w.heap.size _ _ _ (Or.inr h1) (by simp; omega) (by have := hbw.size; have := b1.size; omega)).mono ?_
        rintro e W2 ⟨rfl, h2, b2⟩
        go_wp2_with fail
        refine (bld_write w.heap.size w.heap.size _ _ _ (Or.inr h2) (by simp; omega) (by have := hbw.size; have := b1.size; have := b2.size; omega)).mono ?_
        rintro e W3 ⟨rfl, h3, b3⟩
        go_wp2_with fail
        go_roundw
        case rel => exact ⟨k + 1, by omega, by go_num, Or.inr (by rw [cells_pct s k hlt HU.out (by show _ < 16; omega) (by show _ < 16; omega)]; exact h3), ((hbw.trans b1).trans b2).trans b3⟩
        case measure => simp [intOf]; omega
      · have HU : Hid (unr (PlainAid.bt s k) = false) := unr_no _ (by omega)
        have f1 : 65 ≤ PlainAid.bt s k := by omega
        have f2 : ¬ PlainAid.bt s k ≤ 90 := by omega
        have f3 : 97 ≤ PlainAid.bt s k := by omega
        have f4 : ¬ PlainAid.bt s k ≤ 122 := by omega
        have f5 : 48 ≤ PlainAid.bt s k := by omega
        have f6 : ¬ PlainAid.bt s k ≤ 57 := by omega
        have g1 : (PlainAid.bt s k == 45) = false := beq_false_of_ne (by omega)
        have g2 : (PlainAid.bt s k == 95) = false := beq_false_of_ne (by omega)
        have g3 : (PlainAid.bt s k == 46) = false := beq_false_of_ne (by omega)
        have g4 : (PlainAid.bt s k == 126) = false := beq_false_of_ne (by omega)
        go_wp2_with fail
        refine (bld_write w.heap.size w.heap.size _ _ _ hI (by omega) (by have := hbw.size; omega)).mono ?_
        rintro e W1 ⟨rfl, h1, b1⟩
        go_wp2_with fail
        refine (bld_write w.heap.size w.heap.size _ _ _ (Or.inr h1) (by simp; omega) (by have := hbw.size; have := b1.size; omega)).mono ?_
        rintro e W2 ⟨rfl, h2, b2⟩
        go_wp2_with fail
        refine (bld_write w.heap.size w.heap.size _ _ _ (Or.inr h2) (by simp; omega) (by have := hbw.size; have := b1.size; have := b2.size; omega)).mono ?_
        rintro e W3 ⟨rfl, h3, b3⟩
        go_wp2_with fail
        go_roundw
        case rel => exact ⟨k + 1, by omega, by go_num, Or.inr (by rw [cells_pct s k hlt HU.out (by show _ < 16; omega) (by show _ < 16; omega)]; exact h3), ((hbw.trans b1).trans b2).trans b3⟩
        case measure => simp [intOf]; omega
    · have hsz := hbw.size
      go_wp2_with (go_at_call 19; refine (bld_string w.heap.size w.heap.size (enc (s.data.toList.take k)) _ hI (by omega)).mono ?_)
      rintro e W1 ⟨rfl, b1⟩
      go_wp2
      go_ret
      rw [List.take_of_length_le (show s.size ≤ k by omega)]
      exact ⟨rfl, hbw.trans b1⟩

set_option maxHeartbeats 400000 in
theorem zz_enc_any (s : ByteArray) (w : World) (hs : s.size ≤ 2097152) : Calls Try.prog 8 #[.string s] w fun e w' => e = .returned (.string ⟨(enc s.data.toList).toArray⟩) ∧ Below w.heap.size w w' := by
  go_enter Try.func8, Try.ntmps8
  go_wp2_with (go_at_call 16; refine (enc_any _ _ hs).mono ?_)
  rintro e w' ⟨rfl, hb⟩
  go_wp2
  go_ret
  exact ⟨rfl, hb⟩
end Go.Proofs.Qxb6619500a
