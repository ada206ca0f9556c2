import Derived.Test.Qxb6619177aFmtEnc
import Derived.Laws.BitsAllLaws
namespace Go.Proofs.Qxb6619177aFmt
open Go.RowKit
set_option linter.unusedVariables false
set_option linter.unusedSimpArgs false

/-! ### THE PLAIN READING OF A HEADER -/
/-- the i-th byte, as a number. -/
def gb (xs : List Int) (i : Nat) : Nat := (xs.getD i 0).toNat
/-- the first k octets behind the first two, most significant first. -/
def be (xs : List Int) : Nat → Nat
  | 0 => 0
  | k + 1 => be xs k * 256 + gb xs (k + 2)
/-- WHAT der.Reader.read FINDS: the header's length and the contents' length. -/
def rd (xs : List Int) (tag : Int) : Option (Nat × Nat) :=
  if xs.length < 2 ∨ xs.getD 0 0 ≠ tag then none
  else if gb xs 1 < 128 then (if gb xs 1 + 2 ≤ xs.length then some (2, gb xs 1) else none)
  else if gb xs 1 = 128 ∨ 132 < gb xs 1 ∨ xs.length + 128 < 2 + gb xs 1 ∨ gb xs 2 = 0 ∨ be xs (gb xs 1 - 128) < 128 then none
  else if be xs (gb xs 1 - 128) + (2 + (gb xs 1 - 128)) ≤ xs.length then some (2 + (gb xs 1 - 128), be xs (gb xs 1 - 128)) else none

theorem byte_at {xs : List Int} (h : ∀ x ∈ xs, 0 ≤ x ∧ x ≤ 255) (i : Nat) : 0 ≤ xs.getD i 0 ∧ xs.getD i 0 ≤ 255 := by
  by_cases hi : i < xs.length
  · have e : xs.getD i 0 = xs[i] := by simp [List.getD_eq_getElem?_getD, hi]
    rw [e]
    exact h _ (List.getElem_mem hi)
  · have e : xs.getD i 0 = 0 := by simp [List.getD_eq_getElem?_getD, hi]
    omega
theorem gb_lt {xs : List Int} (h : ∀ x ∈ xs, 0 ≤ x ∧ x ≤ 255) (i : Nat) : gb xs i < 256 := by
  have := byte_at h i
  unfold gb
  omega
theorem gb_cast {xs : List Int} (h : ∀ x ∈ xs, 0 ≤ x ∧ x ≤ 255) (i : Nat) : ((gb xs i : Nat) : Int) = xs.getD i 0 := by
  have := byte_at h i
  unfold gb
  omega
theorem be_lt {xs : List Int} (h : ∀ x ∈ xs, 0 ≤ x ∧ x ≤ 255) (k : Nat) (hk : k ≤ 4) : be xs k < 4294967296 := by
  have h2 : gb xs (0 + 2) < 256 := gb_lt h _
  have h3 : gb xs (1 + 2) < 256 := gb_lt h _
  have h4 : gb xs (2 + 2) < 256 := gb_lt h _
  have h5 : gb xs (3 + 2) < 256 := gb_lt h _
  have c : k = 0 ∨ k = 1 ∨ k = 2 ∨ k = 3 ∨ k = 4 := by omega
  rcases c with rfl | rfl | rfl | rfl | rfl <;> simp only [be] <;> omega
theorem step_be (v : Nat) (c : Int) (hv : v < 4294967296) (h0 : 0 ≤ c) (h1 : c ≤ 255) : bits BinOp.or IntKind.u64 (IntKind.u64.wrap ((v : Int) * 256)) c = ((v * 256 + c.toNat : Nat) : Int) := by
  have e1 : IntKind.u64.wrap ((v : Int) * 256) = ((v * 256 : Nat) : Int) := by rw [IntKind.wrap_u64]; omega
  have e2 : c = ((c.toNat : Nat) : Int) := by omega
  rw [e1, e2, u64_or_nat _ _ (by omega) (by omega), nat_join 8 _ _ (by omega) (by omega)]
  simp

theorem hit_one {xs : List Int} (h : ∀ x ∈ xs, 0 ≤ x ∧ x ≤ 255) (hl : 2 ≤ xs.length) : encL (gb xs 1) = (xs.take 2).drop 1 ↔ gb xs 1 < 128 := by
  match xs, hl with
  | x0 :: x1 :: r, _ =>
    have h1 := h x1 (by simp)
    have e : gb (x0 :: x1 :: r) 1 = x1.toNat := by simp [gb]
    rw [e]
    by_cases hs : x1.toNat < 128
    · simp [encL, hs]; omega
    · simp [encL, hs, encK, nb, show x1.toNat < 256 by omega]

theorem hit_more {xs : List Int} (h : ∀ x ∈ xs, 0 ≤ x ∧ x ≤ 255) (k : Nat) (h1 : 1 ≤ k) (h4 : k ≤ 4) (hl : 2 + k ≤ xs.length) :
    encL (be xs k) = (xs.take (2 + k)).drop 1 ↔ gb xs 1 = 128 + k ∧ gb xs 2 ≠ 0 ∧ 128 ≤ be xs k := by
  have c : k = 1 ∨ k = 2 ∨ k = 3 ∨ k = 4 := by omega
  rcases c with rfl | rfl | rfl | rfl
  · match xs, hl with
    | x0 :: x1 :: x2 :: r, _ =>
      have a1 := h x1 (by simp)
      have a2 := h x2 (by simp)
      have e : be (x0 :: x1 :: x2 :: r) 1 = x2.toNat := by simp [be, gb]
      rw [e]
      by_cases hs : x2.toNat < 128
      · simp [encL, hs]
      · simp [encL, hs, encK, nb, show x2.toNat < 256 by omega, gb, dg, List.range_succ]; omega
  · match xs, hl with
    | x0 :: x1 :: x2 :: x3 :: r, _ =>
      have a1 := h x1 (by simp)
      have a2 := h x2 (by simp)
      have a3 := h x3 (by simp)
      have e : be (x0 :: x1 :: x2 :: x3 :: r) 2 = x2.toNat * 256 + x3.toNat := by simp [be, gb]
      rw [e]
      by_cases hs : x2.toNat * 256 + x3.toNat < 128
      · simp [encL, hs]
      · by_cases h2 : x2.toNat * 256 + x3.toNat < 256
        · simp [encL, hs, encK, nb, h2, gb, dg, List.range_succ]; omega
        · simp [encL, hs, encK, nb, h2, show x2.toNat * 256 + x3.toNat < 65536 by omega, gb, dg, List.range_succ]; omega
  · match xs, hl with
    | x0 :: x1 :: x2 :: x3 :: x4 :: r, _ =>
      have a1 := h x1 (by simp)
      have a2 := h x2 (by simp)
      have a3 := h x3 (by simp)
      have a4 := h x4 (by simp)
      have e : be (x0 :: x1 :: x2 :: x3 :: x4 :: r) 3 = (x2.toNat * 256 + x3.toNat) * 256 + x4.toNat := by simp [be, gb]
      rw [e]
      by_cases hs : (x2.toNat * 256 + x3.toNat) * 256 + x4.toNat < 128
      · simp [encL, hs]
      · by_cases h2 : (x2.toNat * 256 + x3.toNat) * 256 + x4.toNat < 256
        · simp [encL, hs, encK, nb, h2, gb, dg, List.range_succ]; omega
        · by_cases h3 : (x2.toNat * 256 + x3.toNat) * 256 + x4.toNat < 65536
          · simp [encL, hs, encK, nb, h2, h3, gb, dg, List.range_succ]; omega
          · simp [encL, hs, encK, nb, h2, h3, show (x2.toNat * 256 + x3.toNat) * 256 + x4.toNat < 16777216 by omega, gb, dg, List.range_succ]; omega
  · match xs, hl with
    | x0 :: x1 :: x2 :: x3 :: x4 :: x5 :: r, _ =>
      have a1 := h x1 (by simp)
      have a2 := h x2 (by simp)
      have a3 := h x3 (by simp)
      have a4 := h x4 (by simp)
      have a5 := h x5 (by simp)
      have e : be (x0 :: x1 :: x2 :: x3 :: x4 :: x5 :: r) 4 = ((x2.toNat * 256 + x3.toNat) * 256 + x4.toNat) * 256 + x5.toNat := by simp [be, gb]
      rw [e]
      by_cases hs : ((x2.toNat * 256 + x3.toNat) * 256 + x4.toNat) * 256 + x5.toNat < 128
      · simp [encL, hs]
      · by_cases h2 : ((x2.toNat * 256 + x3.toNat) * 256 + x4.toNat) * 256 + x5.toNat < 256
        · simp [encL, hs, encK, nb, h2, gb, dg, List.range_succ]; omega
        · by_cases h3 : ((x2.toNat * 256 + x3.toNat) * 256 + x4.toNat) * 256 + x5.toNat < 65536
          · simp [encL, hs, encK, nb, h2, h3, gb, dg, List.range_succ]; omega
          · by_cases h4 : ((x2.toNat * 256 + x3.toNat) * 256 + x4.toNat) * 256 + x5.toNat < 16777216
            · simp [encL, hs, encK, nb, h2, h3, h4, gb, dg, List.range_succ]; omega
            · simp [encL, hs, encK, nb, h2, h3, h4, gb, dg, List.range_succ]; omega
end Go.Proofs.Qxb6619177aFmt
