import Derived.Test.Qxb6619202aRows
import Derived.WalkKit
namespace Go.Proofs.Qxb6619202a
open Go.RowKit
set_option linter.unusedVariables false
set_option linter.unusedSimpArgs false

/-! ### THE PLAIN FUNCTIONS -/
def unesc (c : Int) : ByteArray :=
  if c = 48 then ⟨#[0]⟩ else if c = 98 then ⟨#[8]⟩ else if c = 110 then ⟨#[10]⟩ else if c = 114 then ⟨#[13]⟩ else if c = 116 then ⟨#[9]⟩ else if c = 90 then ⟨#[26]⟩
  else if c = 37 ∨ c = 95 then ⟨#[92]⟩ ++ Utf8.encode c else Utf8.encode c
/-- the control byte that a letter names, and whether it is such a letter. -/
def ctl (c : Int) : Int × Bool :=
  if c = 48 then (0, true) else if c = 98 then (8, true) else if c = 110 then (10, true) else if c = 114 then (13, true) else if c = 116 then (9, true) else if c = 90 then (26, true) else (0, false)
def clash (a b : Int) : Bool := (ctl a).2 && (ctl a).1 == b

theorem encode_size : ∀ u : Fin 256, (Utf8.encode (u.val : Int)).size ≤ 2 := by decide +kernel
theorem encode_le (c : Int) (h0 : 0 ≤ c) (h1 : c ≤ 255) : (Utf8.encode c).size ≤ 2 := by
  have := encode_size ⟨c.toNat, by omega⟩
  have e : ((c.toNat : Nat) : Int) = c := by omega
  simpa [e] using this

/-- the byte that unescape(a) tells: the control byte of a letter, else a. -/
def key (a : Int) : Int := if (ctl a).2 then (ctl a).1 else a
/-- what a told byte is written as. -/
def told (k : Int) : List UInt8 := if k = 37 ∨ k = 95 then 92 :: (Utf8.encode k).data.toList else (Utf8.encode k).data.toList
/-- and read back. -/
def back : List UInt8 → Int
  | [x] => (x.toNat : Int)
  | [x, y] => if x = 92 then (y.toNat : Int) else ((x.toNat : Int) - 192) * 64 + ((y.toNat : Int) - 128)
  | _ => 0
theorem told_fact : ∀ u : Fin 256, (unesc (u.val : Int)).data.toList = told (key (u.val : Int)) := by decide +kernel
theorem back_fact : ∀ u : Fin 256, back (told (u.val : Int)) = (u.val : Int) := by decide +kernel
/-- the six letters. -/
theorem ctl_cases (a : Int) : ((ctl a).2 = false) ∨ ((ctl a).2 = true ∧ ((a = 48 ∧ (ctl a).1 = 0) ∨ (a = 98 ∧ (ctl a).1 = 8) ∨ (a = 110 ∧ (ctl a).1 = 10) ∨ (a = 114 ∧ (ctl a).1 = 13) ∨ (a = 116 ∧ (ctl a).1 = 9) ∨ (a = 90 ∧ (ctl a).1 = 26))) := by
  by_cases h1 : a = 48
  · subst h1; right; decide
  by_cases h2 : a = 98
  · subst h2; right; decide
  by_cases h3 : a = 110
  · subst h3; right; decide
  by_cases h4 : a = 114
  · subst h4; right; decide
  by_cases h5 : a = 116
  · subst h5; right; decide
  by_cases h6 : a = 90
  · subst h6; right; decide
  left
  simp [ctl, h1, h2, h3, h4, h5, h6]
theorem key_range {a : Int} (a0 : 0 ≤ a) (a1 : a ≤ 255) : 0 ≤ key a ∧ key a ≤ 255 := by
  unfold key
  rcases ctl_cases a with h | ⟨h, h'⟩
  · simp [h]; omega
  · simp [h]; omega
theorem unesc_eq {a b : Int} (a0 : 0 ≤ a) (a1 : a ≤ 255) (b0 : 0 ≤ b) (b1 : b ≤ 255) : (unesc a).data.toList = (unesc b).data.toList ↔ key a = key b := by
  have ea : ((a.toNat : Nat) : Int) = a := by omega
  have eb : ((b.toNat : Nat) : Int) = b := by omega
  have ha := told_fact ⟨a.toNat, by omega⟩
  have hb := told_fact ⟨b.toNat, by omega⟩
  simp only [ea] at ha
  simp only [eb] at hb
  rw [ha, hb]
  constructor
  · intro h
    obtain ⟨ka0, ka1⟩ := key_range a0 a1
    obtain ⟨kb0, kb1⟩ := key_range b0 b1
    have fa := back_fact ⟨(key a).toNat, by omega⟩
    have fb := back_fact ⟨(key b).toNat, by omega⟩
    have e1 : (((key a).toNat : Nat) : Int) = key a := by omega
    have e2 : (((key b).toNat : Nat) : Int) = key b := by omega
    simp only [e1] at fa
    simp only [e2] at fb
    rw [← fa, ← fb, h]
  · intro h
    rw [h]
theorem key_clash {a b : Int} (hne : a ≠ b) : (key a = key b) ↔ (clash a b || clash b a) = true := by
  unfold key clash
  rcases ctl_cases a with ha | ⟨ha, ha'⟩ <;> rcases ctl_cases b with hb | ⟨hb, hb'⟩
  · simp [ha, hb, hne]
  · simp [ha, hb]
    omega
  · simp [ha, hb]
  · simp only [ha, hb, if_true, Bool.true_and, Bool.or_eq_true, beq_iff_eq]
    omega
theorem eq_plain (a b : Int) (a0 : 0 ≤ a) (a1 : a ≤ 255) (b0 : 0 ≤ b) (b1 : b ≤ 255) (hne : a ≠ b) : ((unesc a).data.toList == (unesc b).data.toList) = (clash a b || clash b a) := by
  rw [Bool.eq_iff_iff, beq_iff_eq, unesc_eq a0 a1 b0 b1, key_clash hne]
end Go.Proofs.Qxb6619202a
