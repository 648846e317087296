/-
  PLAIN MATHEMATICS OF THE SEAT b6619500a: bytes, percent-encoding, access key ids, over lists of bytes. Nothing of the program in it.
-/
import Derived.WalkKit
namespace Go.Proofs.Qxb6619500a.Plain

/-- An ASCII letter or digit. -/
def alnum (c : Int) : Bool := decide ((65 ≤ c ∧ c ≤ 90) ∨ (97 ≤ c ∧ c ≤ 122) ∨ (48 ≤ c ∧ c ≤ 57))
/-- The four marks '-', '_', '.', '~'. -/
def mark (c : Int) : Bool := decide (c = 45 ∨ c = 95 ∨ c = 46 ∨ c = 126)
/-- The unreserved characters of RFC 3986. -/
def unr (c : Int) : Bool := alnum c || mark c

theorem alnum_iff (c : Int) : alnum c = true ↔ (65 ≤ c ∧ c ≤ 90) ∨ (97 ≤ c ∧ c ≤ 122) ∨ (48 ≤ c ∧ c ≤ 57) := by simp [alnum]
theorem mark_iff (c : Int) : mark c = true ↔ c = 45 ∨ c = 95 ∨ c = 46 ∨ c = 126 := by simp [mark]
theorem unr_iff (c : Int) : unr c = true ↔ ((65 ≤ c ∧ c ≤ 90) ∨ (97 ≤ c ∧ c ≤ 122) ∨ (48 ≤ c ∧ c ≤ 57)) ∨ c = 45 ∨ c = 95 ∨ c = 46 ∨ c = 126 := by
  simp [unr, alnum, mark]

/-- An access key id: 1 to 128 letters and digits. -/
def akid (l : List UInt8) : Bool := !l.isEmpty && decide (l.length ≤ 128) && l.all (fun c => alnum c.toNat)

/-- The upper-case hex digit of a number below 16. -/
def hexd (n : Nat) : UInt8 := if n < 10 then UInt8.ofNat (48 + n) else UInt8.ofNat (55 + n)
/-- One byte, percent-encoded. -/
def enc1 (c : UInt8) : List UInt8 := if unr c.toNat then [c] else [37, hexd (c.toNat / 16), hexd (c.toNat % 16)]
/-- A text, percent-encoded. -/
def enc : List UInt8 → List UInt8
  | [] => []
  | c :: l => enc1 c ++ enc l

theorem enc_append (a b : List UInt8) : enc (a ++ b) = enc a ++ enc b := by
  induction a with
  | nil => rfl
  | cons c l ih => simp [enc, ih]

theorem enc_snoc (a : List UInt8) (c : UInt8) : enc (a ++ [c]) = enc a ++ enc1 c := by
  rw [enc_append]; simp [enc]

theorem enc1_bound (c : UInt8) : 1 ≤ (enc1 c).length ∧ (enc1 c).length ≤ 3 := by
  unfold enc1; split <;> simp

theorem enc_bound (l : List UInt8) : l.length ≤ (enc l).length ∧ (enc l).length ≤ 3 * l.length := by
  induction l with
  | nil => simp [enc]
  | cons c l ih => have := enc1_bound c; simp [enc]; omega

theorem hexd_toNat (n : Nat) (h : n < 16) : ((hexd n).toNat : Int) = if (n : Int) < 10 then 48 + (n : Int) else 55 + (n : Int) := by
  unfold hexd
  by_cases h10 : n < 10
  · have hi : (n : Int) < 10 := by omega
    rw [if_pos h10, if_pos hi, UInt8.toNat_ofNat']; omega
  · have hi : ¬ (n : Int) < 10 := by omega
    rw [if_neg h10, if_neg hi, UInt8.toNat_ofNat']; omega

theorem hexd_unr (n : Nat) (h : n < 16) : unr (hexd n).toNat = true := by
  rw [unr_iff, hexd_toNat n h]; split <;> omega

/-- Only unreserved bytes and '%' in an encoded text. -/
theorem enc1_chars (c d : UInt8) (h : d ∈ enc1 c) : (d.toNat : Int) = 37 ∨ unr d.toNat = true := by
  have hc := c.toNat_lt
  unfold enc1 at h
  split at h
  · rename_i hu; simp at h; subst h; exact Or.inr hu
  · simp at h
    rcases h with rfl | rfl | rfl
    · exact Or.inl rfl
    · exact Or.inr (hexd_unr _ (by omega))
    · exact Or.inr (hexd_unr _ (by omega))

theorem enc_chars (l : List UInt8) (d : UInt8) (h : d ∈ enc l) : (d.toNat : Int) = 37 ∨ unr d.toNat = true := by
  induction l with
  | nil => simp [enc] at h
  | cons c l ih =>
    simp [enc] at h
    rcases h with h | h
    · exact enc1_chars c d h
    · exact ih h

/-- The encoding leaves a text as it is just where every byte is unreserved. -/
theorem enc_fix (l : List UInt8) : enc l = l ↔ l.all (fun c => unr c.toNat) = true := by
  induction l with
  | nil => simp [enc]
  | cons c l ih =>
    by_cases hu : unr c.toNat = true
    · simp [enc, enc1, hu, ih]
    · have hb := (enc_bound l).1
      constructor
      · intro h
        have := congrArg List.length h
        simp [enc, enc1, hu] at this
        omega
      · intro h; simp [hu] at h

theorem alnum_split (c : Int) : alnum c = (unr c && !mark c) := by
  rw [Bool.eq_iff_iff]; simp [unr, alnum, mark]; omega

theorem all_alnum (l : List UInt8) : l.all (fun c => alnum c.toNat) = (l.all (fun c => unr c.toNat) && l.all (fun c => !mark c.toNat)) := by
  induction l with
  | nil => rfl
  | cons c l ih =>
    rw [List.all_cons, List.all_cons, List.all_cons, ih, alnum_split]
    cases unr c.toNat <;> cases mark c.toNat <;> cases (l.all fun c => unr c.toNat) <;> rfl

/-- An access key id, said by the encoding. -/
theorem akid_enc (l : List UInt8) : akid l = (decide (1 ≤ l.length) && decide (l.length ≤ 128) && decide (enc l = l) && l.all (fun c => !mark c.toNat)) := by
  have h1 : (!l.isEmpty) = decide (1 ≤ l.length) := by cases l <;> simp
  have h2 : decide (enc l = l) = l.all (fun c => unr c.toNat) := by
    rw [Bool.eq_iff_iff]; simp only [decide_eq_true_eq]; exact enc_fix l
  unfold akid
  rw [h1, h2, all_alnum, Bool.and_assoc, Bool.and_assoc, Bool.and_assoc]

/-- One letter or digit more. -/
theorem akid_grow (a b : List UInt8) (c : UInt8) : akid (a ++ [c] ++ b) = (((a ++ b).isEmpty || akid (a ++ b)) && alnum c.toNat && decide ((a ++ b).length < 128)) := by
  have he : (a ++ [c] ++ b).isEmpty = false := by cases a <;> rfl
  have hl : (a ++ [c] ++ b).length = (a ++ b).length + 1 := by simp; omega
  have ha : (a ++ [c] ++ b).all (fun c => alnum c.toNat) = ((a ++ b).all (fun c => alnum c.toNat) && alnum c.toNat) := by
    simp only [List.all_append, List.all_cons, List.all_nil, Bool.and_true]
    cases (a.all fun c => alnum c.toNat) <;> cases (b.all fun c => alnum c.toNat) <;> cases alnum c.toNat <;> rfl
  have hz : (a ++ b).isEmpty = true → (a ++ b).all (fun c => alnum c.toNat) = true := by
    intro h; rw [List.isEmpty_iff.1 h]; rfl
  unfold akid
  rw [he, hl, ha]
  have hd : decide ((a ++ b).length + 1 ≤ 128) = decide ((a ++ b).length < 128) := by
    rw [Bool.eq_iff_iff]; simp only [decide_eq_true_eq]; omega
  have hd2 : (a ++ b).length < 128 → (a ++ b).length ≤ 128 := by omega
  rw [hd]
  generalize (a ++ b).length = n at *
  generalize (a ++ b).all (fun c => alnum c.toNat) = p at *
  generalize (a ++ b).isEmpty = q at *
  generalize alnum c.toNat = r at *
  by_cases hn : n < 128
  · have := hd2 hn
    cases p <;> cases q <;> cases r <;> simp_all
  · clear hd hd2 hl ha he hz
    have : decide (n < 128) = false := by simpa using hn
    rw [this]
    cases p <;> cases q <;> cases r <;> simp

theorem akid_one (c : UInt8) : akid [c] = alnum c.toNat := by simp [akid]
theorem akid_nil : akid [] = false := rfl
end Go.Proofs.Qxb6619500a.Plain
