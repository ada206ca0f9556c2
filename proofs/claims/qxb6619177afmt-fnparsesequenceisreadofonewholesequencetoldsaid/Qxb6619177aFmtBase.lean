import Derived.Test.Qxb6619177aFmtRows
import Derived.WalkKit
import Derived.WalkSpells
import Derived.WalkLawsBesides
import Derived.RegionTactic
import Derived.ChangeAlike
import Derived.Deep.QuietTactic
import Derived.BigQuiet
import Derived.BigRegion
import Derived.Below
import Derived.Carry
import Derived.OwnWalk
import Derived.WalkSmall
namespace Go.Proofs.Qxb6619177aFmt
open Go.RowKit
set_option linter.unusedVariables false
set_option linter.unusedSimpArgs false

/-- THE SLICE VALUE '.slice ao n cap' READS AS THE BYTES xs IN w. -/
def Byt (w : World) (ao : Option Addr) (n cap : Nat) (xs : List Int) : Prop :=
  xs.length = n ∧ n ≤ cap ∧ cap ≤ 9223372036854775807 ∧ (ao = none → cap = 0) ∧
  (n ≠ 0 → ∃ b off, ao = some ⟨b, off, none⟩ ∧ ∀ i, i < n → w.cell? ⟨b, off + i, none⟩ = some (.int .u8 (xs.getD i 0))) ∧
  ∀ x ∈ xs, 0 ≤ x ∧ x ≤ 255

set_option maxHeartbeats 400000 in
theorem eq_len (a b : Option Addr) (n m c d : Nat) (w : World) (h : ((n : Int) != (m : Int)) = true) (hn : n ≤ maxLen) (hm : m ≤ maxLen) :
    Calls Tryf.prog 11 #[.slice a n c, .slice b m d] w fun e w' => e = .returned (.bool false) ∧ w' = w := by
  unfold maxLen at hn hm
  go_enter Tryf.func11, Tryf.ntmps11
  go_wp2
  go_ret
  exact ⟨rfl, rfl⟩

theorem eq_none (a b : Option Addr) (c d : Nat) (w : World) :
    Calls Tryf.prog 11 #[.slice a 0 c, .slice b 0 d] w fun e w' => e = .returned (.bool true) ∧ w' = w := by
  go_enter Tryf.func11, Tryf.ntmps11
  go_wp2
  refine wp_loop_rounds 1 ?_
  rw [rounds_succ]
  go_wp2
  go_ret
  exact ⟨rfl, rfl⟩

set_option maxHeartbeats 800000 in
theorem eq_same (b off b' off' n c d : Nat) (xs ys : List Int) (w : World) (hn : n ≤ 9223372036854775807)
    (hx : ∀ i, i < n → w.cell? ⟨b, off + i, none⟩ = some (.int .u8 (xs.getD i 0)))
    (hy : ∀ i, i < n → w.cell? ⟨b', off' + i, none⟩ = some (.int .u8 (ys.getD i 0))) :
    Calls Tryf.prog 11 #[.slice (some ⟨b, off, none⟩) n c, .slice (some ⟨b', off', none⟩) n d] w fun e w' =>
      ∃ r : Bool, e = .returned (.bool r) ∧ (∃ k, w' = w.drewN k) ∧ (r = true ↔ ∀ i, i < n → xs.getD i 0 = ys.getD i 0) := by
  go_enter Tryf.func11, Tryf.ntmps11
  go_wp2
  go_loopw [5] (fun i wr => ∃ k : Nat, k ≤ n ∧ i = .int .i64 k ∧ (∃ q, wr = w.drewN q) ∧ ∀ j, j < k → xs.getD j 0 = ys.getD j 0) (fun i _ => n - (intOf i).toNat)
  case atStart => exact ⟨0, Nat.zero_le _, rfl, ⟨0, rfl⟩, fun j hj => by omega⟩
  case round =>
    obtain ⟨k, hk, rfl, ⟨q, rfl⟩, hall⟩ := hrel
    have hall' : Hid (∀ j, j < k → xs.getD j 0 = ys.getD j 0) := hall
    clear hall
    by_cases hlt : k < n
    · have h1 := hx k hlt
      have h2 := hy k hlt
      go_wp2
      go_quiet (fail)
      go_wp2
      · go_ret
        refine ⟨false, rfl, ⟨_, by rw [World.drewN_drewN]⟩, ?_⟩
        simp only [Bool.false_eq_true, false_iff]
        intro hh
        have := hh k hlt
        simp_all
      · go_roundw
        case rel =>
          refine ⟨k + 1, by omega, by go_num, ⟨_, rfl⟩, fun j hj => ?_⟩
          by_cases hjk : j < k
          · exact hall'.out j hjk
          · have : j = k := by omega
            subst this
            simp_all
        case measure => simp [intOf]; omega
    · go_wp2
      go_ret
      have hkn : k = n := by omega
      subst hkn
      exact ⟨true, rfl, ⟨_, rfl⟩, by simpa using hall'.out⟩

theorem ext_getD (xs ys : List Int) (hl : xs.length = ys.length) : xs = ys ↔ ∀ i, i < xs.length → xs.getD i 0 = ys.getD i 0 := by
  constructor
  · intro h; subst h; intros; rfl
  · intro h
    apply List.ext_getElem hl
    intro i h1 h2
    have := h i h1
    simpa [List.getD_eq_getElem?_getD, h1, h2] using this

/-- eqBytes BY ITS CONTRACT. -/
theorem eq_any (a b : Option Addr) (n m c d : Nat) (xs ys : List Int) (w : World) (ha : Byt w a n c xs) (hb : Byt w b m d ys) :
    Calls Tryf.prog 11 #[.slice a n c, .slice b m d] w fun e w' => e = .returned (.bool (decide (xs = ys))) ∧ ∃ k, w' = w.drewN k := by
  obtain ⟨hxn, hc, hcm, _, hax, _⟩ := ha
  obtain ⟨hyn, hd, hdm, _, hby, _⟩ := hb
  by_cases hnm : n = m
  · subst hnm
    by_cases h0 : n = 0
    · subst h0
      refine (eq_none a b c d w).mono fun e w' ⟨he, hw⟩ => ?_
      have e1 : xs = [] := List.length_eq_zero_iff.1 hxn
      have e2 : ys = [] := List.length_eq_zero_iff.1 hyn
      subst e1 e2 he hw
      exact ⟨by simp, 0, rfl⟩
    · obtain ⟨b1, o1, rfl, hx⟩ := hax h0
      obtain ⟨b2, o2, rfl, hy⟩ := hby h0
      refine (eq_same b1 o1 b2 o2 n c d xs ys w (by omega) hx hy).mono fun e w' ⟨r, he, hw, hr⟩ => ?_
      refine ⟨?_, hw⟩
      rw [he]
      congr 2
      have hh := ext_getD xs ys (by omega)
      rw [hxn] at hh
      rw [← hh] at hr
      cases r <;> simp_all
  · refine (eq_len a b n m c d w (by simp; omega) (by unfold maxLen; omega) (by unfold maxLen; omega)).mono fun e w' ⟨he, hw⟩ => ?_
    subst he hw
    refine ⟨?_, 0, rfl⟩
    have : xs ≠ ys := by intro h; subst h; omega
    simp [this]

/-! ### what is owned reads as bytes; what reads as bytes goes on reading so -/
theorem byt_of_own {w : World} {base g n cap : Nat} {xs : List Int} (h : w.ownsRow base 5 1 (.slice (some ⟨g, 0, none⟩) n cap) n (xs.map (Value.int .u8)))
    (hb : ∀ x ∈ xs, 0 ≤ x ∧ x ≤ 255) : Byt w (some ⟨g, 0, none⟩) n cap xs := by
  have hl : xs.length = n := by have := h.1; simpa using this
  refine ⟨hl, ?_, ?_, by simp, fun _ => ⟨g, 0, rfl, fun i hi => ?_⟩, hb⟩
  · rcases h.2 with ⟨h', _⟩ | ⟨g', cap', cur, h', _, _, hnc, _⟩
    · simp at h'
    · simp only [Value.slice.injEq, Option.some.injEq, Addr.mk.injEq, and_true, true_and] at h'
      omega
  · rcases h.2 with ⟨h', _⟩ | ⟨g', cap', cur, h', _, _, _, hm, _⟩
    · simp at h'
    · simp only [Value.slice.injEq, Option.some.injEq, Addr.mk.injEq, and_true, true_and] at h'
      unfold maxLen at hm
      omega
  · rw [Nat.zero_add, h.cellAt i (by omega)]
    simp [List.getD_eq_getElem?_getD, hl, hi]

theorem lt_of_cell {w : World} {b o : Nat} {v : Value} (h : w.cell? ⟨b, o, none⟩ = some v) : b < w.heap.size := by
  simp only [World.cell?] at h
  by_cases hb : b < w.heap.size
  · exact hb
  · simp [hb] at h

theorem byt_below {w w' : World} {ao : Option Addr} {n cap : Nat} {xs : List Int} (h : Byt w ao n cap xs) (hb : Below w.heap.size w w') : Byt w' ao n cap xs := by
  obtain ⟨h1, h2, h3, h4, h5, h6⟩ := h
  refine ⟨h1, h2, h3, h4, fun hn => ?_, h6⟩
  obtain ⟨b, off, rfl, hc⟩ := h5 hn
  refine ⟨b, off, rfl, fun i hi => ?_⟩
  rw [hb.cell (lt_of_cell (hc i hi)), hc i hi]

theorem byt_drewN {w : World} {k : Nat} {ao : Option Addr} {n cap : Nat} {xs : List Int} (h : Byt w ao n cap xs) : Byt (w.drewN k) ao n cap xs :=
  byt_below h (below_drewN (Below.refl _ _) k)

theorem byt_nil (w : World) : Byt w none 0 0 [] := ⟨rfl, Nat.le_refl _, by omega, fun _ => rfl, fun h => absurd rfl h, by simp⟩

/-- a cut of a slice reads as the cut of its bytes. -/
theorem byt_cut {w : World} {ao : Option Addr} {n cap lo hi : Nat} {xs : List Int} (h : Byt w ao n cap xs) (hlo : lo ≤ hi) (hhi : hi ≤ n) :
    Byt w (if cap = lo then ao else ao.map (·.add lo)) (hi - lo) (cap - lo) ((xs.take hi).drop lo) := by
  obtain ⟨h1, h2, h3, h4, h5, h6⟩ := h
  refine ⟨by simp; omega, by omega, by omega, ?_, fun hn => ?_, fun x hx => h6 x (List.mem_of_mem_take (List.mem_of_mem_drop hx))⟩
  · intro hx
    by_cases hc : cap = lo
    · omega
    · cases ao with
      | none => have := h4 rfl; omega
      | some a => simp [hc] at hx
  · obtain ⟨b, off, rfl, hc⟩ := h5 (by omega)
    have hne : ¬ cap = lo := by omega
    refine ⟨b, off + lo, by simp [hne, Addr.add], fun i hi' => ?_⟩
    rw [Nat.add_assoc, hc (lo + i) (by omega)]
    simp [List.getD_eq_getElem?_getD, List.getElem?_drop, List.getElem?_take]
    rw [if_pos (by omega)]

theorem eq_yes (a b : Option Addr) (n m c d : Nat) (xs ys : List Int) (w : World) (ha : Byt w a n c xs) (hb : Byt w b m d ys) (h : xs = ys) :
    Calls Tryf.prog 11 #[.slice a n c, .slice b m d] w fun e w' => e = .returned (.bool true) ∧ ∃ k, w' = w.drewN k := by
  refine (eq_any a b n m c d xs ys w ha hb).mono fun e w' ⟨he, hw⟩ => ⟨?_, hw⟩
  rw [he, h]; simp
theorem eq_no (a b : Option Addr) (n m c d : Nat) (xs ys : List Int) (w : World) (ha : Byt w a n c xs) (hb : Byt w b m d ys) (h : ¬ xs = ys) :
    Calls Tryf.prog 11 #[.slice a n c, .slice b m d] w fun e w' => e = .returned (.bool false) ∧ ∃ k, w' = w.drewN k := by
  refine (eq_any a b n m c d xs ys w ha hb).mono fun e w' ⟨he, hw⟩ => ⟨?_, hw⟩
  rw [he]; simp [h]

/-! ### the runs of a cut, ready for the walk -/
theorem size5 (w : World) : (Go.sizeOf 5).run Tryf.prog w = .ok 1 w := by kernel_rfl
theorem elem22 : Tryf.prog.elem 22 = 5 := by kernel_rfl
theorem slice_lh (ao : Option Addr) (n cap lo hi : Nat) (h1 : lo ≤ hi) (h2 : hi ≤ cap) (L H : Int) (hL : L = (lo : Int)) (hH : H = (hi : Int)) (wx : World) :
    (Instr.slice 22 (.slice ao n cap) (some (.int .i64 L)) (some (.int .i64 H)) none).run Tryf.prog wx = .ok (.slice (if cap = lo then ao else ao.map (·.add lo)) (hi - lo) (cap - lo)) wx := by
  subst hL hH
  rw [run_slice_lh wx 22 ao n cap (by rw [elem22]; exact Tryf.underlying22) .i64 .i64 _ _ (by omega) (by omega) (by omega), elem22, size5]
  simp [Result.andThen, sliced]
theorem slice_h (ao : Option Addr) (n cap hi : Nat) (h2 : hi ≤ cap) (H : Int) (hH : H = (hi : Int)) (wx : World) :
    (Instr.slice 22 (.slice ao n cap) none (some (.int .i64 H)) none).run Tryf.prog wx = .ok (.slice (if cap = 0 then ao else ao.map (·.add 0)) (hi - 0) (cap - 0)) wx := by
  subst hH
  rw [run_slice_h wx 22 ao n cap (by rw [elem22]; exact Tryf.underlying22) .i64 _ (by omega) (by omega), elem22, size5]
  simp [Result.andThen, sliced]
theorem slice_l (ao : Option Addr) (n cap lo : Nat) (h1 : lo ≤ n) (L : Int) (hL : L = (lo : Int)) (wx : World) :
    (Instr.slice 22 (.slice ao n cap) (some (.int .i64 L)) none none).run Tryf.prog wx = .ok (.slice (if cap = lo then ao else ao.map (·.add lo)) (n - lo) (cap - lo)) wx := by
  subst hL
  rw [run_slice_l wx 22 ao n cap (by rw [elem22]; exact Tryf.underlying22) .i64 _ (by omega) (by omega), elem22, size5]
  simp [Result.andThen, sliced]

end Go.Proofs.Qxb6619177aFmt
