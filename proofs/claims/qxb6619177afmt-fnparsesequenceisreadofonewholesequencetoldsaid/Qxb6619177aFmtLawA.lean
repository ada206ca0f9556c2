import Derived.Test.Qxb6619177aFmtZz
import Derived.Test.Qxb6619177aFmtHead
namespace Go.Proofs.Qxb6619177aFmt
open Go.RowKit Go.Extern.Stop Go.Stop Go.Extern
set_option linter.unusedVariables false
set_option linter.unusedSimpArgs false

theorem mh_any (a : Option Addr) (n cap : Nat) (tag : Int) (xs : List Int) (w : World) (hx : Byt w a n cap xs) (hn : n ≤ 1048576) :
    Calls Tryf.prog 10 #[.slice a n cap, .int .u8 tag] w fun e w' => e = .returned (mhOut (rd xs tag)) ∧ Below w.heap.size w w' := by
  have hl := hx.1
  by_cases h2 : n < 2
  · rw [rd, if_pos (by omega)]
    refine (mh_short a n cap tag w h2).mono fun e w' ⟨he, hw⟩ => ⟨he, ?_⟩
    rw [hw]; exact Below.refl _ _
  · obtain ⟨b, off, rfl, hc⟩ := hx.2.2.2.2.1 (by omega)
    by_cases ht : xs.getD 0 0 = tag
    · exact mh_try b off n cap tag xs w hx hn (by omega) ht
    · rw [rd, if_pos (Or.inr ht)]
      refine (mh_other b off n cap (xs.getD 0 0) tag w (by omega) (by simpa using hc 0 (by omega)) (by simpa using ht)).mono fun e w' ⟨he, hw⟩ => ⟨he, ?_⟩
      rw [hw]; exact Below.refl _ _

/-- cloneBytes BY ITS CONTRACT: nil stays nil; else a new row of the same bytes. -/
theorem clone_any (ao : Option Addr) (n cap : Nat) (xs : List Int) (w : World) (h : Byt w ao n cap xs) (hn : n ≤ 1048576) :
    Calls Tryf.prog 8 #[.slice ao n cap] w fun e w' => ∃ a', e = .returned (.slice a' n n) ∧ a'.isNone = ao.isNone ∧ Byt w' a' n n xs ∧ (∀ x, a' = some x → x.block < w'.heap.size) ∧ Below w.heap.size w w' := by
  cases ao with
  | none =>
    have hc := h.2.2.2.1 rfl
    have h1 := h.2.1
    obtain rfl : cap = 0 := hc
    obtain rfl : n = 0 := by omega
    refine (clone_nil w).mono fun e w' ⟨he, hw⟩ => ?_
    subst hw
    exact ⟨none, he, rfl, h, by simp, Below.refl _ _⟩
  | some a =>
    refine (clone_some a n cap xs w h hn).mono fun e w' ⟨he, hb, hl, hbel⟩ => ⟨_, he, rfl, hb, ?_, hbel⟩
    intro x hx
    obtain rfl := Option.some.inj hx
    exact hl
end Go.Proofs.Qxb6619177aFmt
