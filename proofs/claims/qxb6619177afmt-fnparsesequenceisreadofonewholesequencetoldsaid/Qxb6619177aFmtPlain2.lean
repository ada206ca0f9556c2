import Derived.Test.Qxb6619177aFmtLaw1
namespace Go.Proofs.Qxb6619177aFmt
open Go.RowKit
set_option linter.unusedVariables false
set_option linter.unusedSimpArgs false

/-! ### PLAIN LAWS OF THE HEADER -/
/-- what rd found, laid open. -/
theorem rd_open {xs : List Int} {t : Int} {h l : Nat} (hr : rd xs t = some (h, l)) :
    2 ≤ xs.length ∧ xs.getD 0 0 = t ∧ h + l ≤ xs.length ∧
    ((h = 2 ∧ l = gb xs 1 ∧ gb xs 1 < 128) ∨ ∃ k, 1 ≤ k ∧ k ≤ 4 ∧ h = 2 + k ∧ gb xs 1 = 128 + k ∧ gb xs 2 ≠ 0 ∧ 128 ≤ be xs k ∧ l = be xs k) := by
  unfold rd at hr
  split at hr
  · cases hr
  · rename_i h1
    have h2 : 2 ≤ xs.length := by omega
    have h3 : xs.getD 0 0 = t := Classical.byContradiction fun hh => h1 (Or.inr hh)
    split at hr
    · split at hr
      · simp only [Option.some.injEq, Prod.mk.injEq] at hr
        exact ⟨h2, h3, by omega, .inl ⟨by omega, by omega, by omega⟩⟩
      · cases hr
    · split at hr
      · cases hr
      · split at hr
        · simp only [Option.some.injEq, Prod.mk.injEq] at hr
          exact ⟨h2, h3, by omega, .inr ⟨gb xs 1 - 128, by omega, by omega, by omega, by omega, by omega, by omega, by omega⟩⟩
        · cases hr

theorem gb_append {xs : List Int} (ys : List Int) {i : Nat} (h : i < xs.length) : gb (xs ++ ys) i = gb xs i := by
  unfold gb
  simp [List.getD_eq_getElem?_getD, List.getElem?_append, h]
theorem be_append {xs : List Int} (ys : List Int) (k : Nat) (h : 2 + k ≤ xs.length) : be (xs ++ ys) k = be xs k := by
  induction k with
  | zero => rfl
  | succ k ih => rw [be, be, ih (by omega), gb_append ys (by omega)]

/-- a header is found whatever follows. -/
theorem rd_append {xs : List Int} {t : Int} {h l : Nat} (ys : List Int) (hr : rd xs t = some (h, l)) : rd (xs ++ ys) t = some (h, l) := by
  obtain ⟨h2, h3, h4, h5⟩ := rd_open hr
  have e0 : (xs ++ ys).getD 0 0 = xs.getD 0 0 := by simp [List.getD_eq_getElem?_getD, List.getElem?_append, show 0 < xs.length by omega]
  have el : (xs ++ ys).length = xs.length + ys.length := List.length_append
  have e1 := gb_append ys (show 1 < xs.length by omega)
  unfold rd
  rw [if_neg (by rw [e0, h3, el]; simp; omega), e1, el]
  rcases h5 with ⟨a, b, c⟩ | ⟨k, k1, k4, a, b, c, d, e⟩
  · rw [if_pos c, if_pos (by omega), a, b]
  · have e2 := gb_append ys (show 2 < xs.length by omega)
    have ek : gb xs 1 - 128 = k := by omega
    have eb := be_append ys k (show 2 + k ≤ xs.length by omega)
    rw [if_neg (by omega), ek, e2, eb, if_neg (by omega), if_pos (by omega), a, e]

/-- the header is the tag and the DER length. -/
theorem rd_head {xs : List Int} (hb : ∀ x ∈ xs, 0 ≤ x ∧ x ≤ 255) {t : Int} {h l : Nat} (hr : rd xs t = some (h, l)) : xs.take h = t :: encL l := by
  obtain ⟨h2, h3, h4, h5⟩ := rd_open hr
  have key : ∀ j, 1 ≤ j → j ≤ xs.length → encL l = (xs.take j).drop 1 → xs.take j = t :: encL l := by
    intro j j1 j2 he
    rw [he, ← h3]
    match xs, h2 with
    | x0 :: r, _ =>
      obtain ⟨i, rfl⟩ : ∃ i, j = i + 1 := ⟨j - 1, by omega⟩
      simp
  rcases h5 with ⟨a, b, c⟩ | ⟨k, k1, k4, a, b, c, d, e⟩
  · subst a
    exact key 2 (by omega) h2 (by rw [b]; exact (hit_one hb h2).2 c)
  · subst a
    exact key (2 + k) (by omega) (by omega) (by rw [e]; exact (hit_more hb k k1 k4 (by omega)).2 ⟨b, c, d⟩)

/-- the whole is the DER encoding of the contents. -/
theorem rd_whole {xs : List Int} (hb : ∀ x ∈ xs, 0 ≤ x ∧ x ≤ 255) {t : Int} {h l : Nat} (hr : rd xs t = some (h, l)) : xs.take (h + l) = (t :: encL l) ++ (xs.take (h + l)).drop h := by
  have := rd_head hb hr
  have e : xs.take h = (xs.take (h + l)).take h := by rw [List.take_take, Nat.min_eq_left (by omega)]
  rw [← this, e, List.take_append_drop]
end Go.Proofs.Qxb6619177aFmt
