import Derived.Test.Qxb6619177aFmtBase
namespace Go.Proofs.Qxb6619177aFmt
open Go.RowKit
set_option linter.unusedVariables false
set_option linter.unusedSimpArgs false

theorem info5 : (Tryf.prog.info? 5).map (fun i => (i.zero, i.size, i.bytes)) = some (some (.int .u8 0), 1, 1) := by kernel_rfl

theorem own_lt {w : World} {base g n cap : Nat} {xs : List Value} (h : w.ownsRow base 5 1 (.slice (some ⟨g, 0, none⟩) n cap) n xs) : g < w.heap.size := by
  rcases h.2 with ⟨h', _⟩ | ⟨g', cap', cur, h', _, hg, _⟩
  · simp at h'
  · simp only [Value.slice.injEq, Option.some.injEq, Addr.mk.injEq, and_true, true_and] at h'
    obtain ⟨rfl, rfl⟩ := h'
    by_cases hb : g < w.heap.size
    · exact hb
    · simp [hb] at hg

theorem clone_nil (w : World) : Calls Tryf.prog 8 #[.slice none 0 0] w fun e w' => e = .returned (.slice none 0 0) ∧ w' = w := by
  have hn := fun w => Lib.run_eql_slice_nil (P := Tryf.prog) w 22 5 none 0 0 0 0 Tryf.underlying22
  go_enter Tryf.func8, Tryf.ntmps8
  go_wp2
  go_ret
  exact ⟨rfl, rfl⟩

/-- the cells of the copy in its k-th round. -/
def part (xs : List Int) (k : Nat) : List Value := (List.range xs.length).map fun j => Value.int .u8 (if j < k then xs.getD j 0 else 0)
theorem part_zero (xs : List Int) : part xs 0 = List.replicate xs.length (.int .u8 0) := by
  apply List.ext_getElem?
  intro j
  by_cases hj : j < xs.length <;> simp [part, hj]
theorem part_all (xs : List Int) : part xs xs.length = xs.map (Value.int .u8) := by
  apply List.ext_getElem?
  intro j
  by_cases hj : j < xs.length <;> simp [part, hj]
theorem part_length (xs : List Int) (k : Nat) : (part xs k).length = xs.length := by simp [part]
theorem part_set (xs : List Int) (k : Nat) (h : k < xs.length) : (part xs k).set k (.int .u8 (xs.getD k 0)) = part xs (k + 1) := by
  apply List.ext_getElem?
  intro j
  by_cases hj : j < xs.length
  · rcases Nat.lt_trichotomy j k with hk | hk | hk
    · simp [part, List.getElem?_set, hj, show ¬ k = j by omega, hk, show j < k + 1 by omega]
    · subst hk
      simp [part, List.getElem?_set, hj]
    · simp [part, List.getElem?_set, hj, show ¬ k = j by omega, show ¬ j < k by omega, show ¬ j < k + 1 by omega]
  · simp [part, List.getElem?_set, hj]

set_option maxHeartbeats 800000 in
theorem clone_some (a : Addr) (n cap : Nat) (xs : List Int) (w : World) (h : Byt w (some a) n cap xs) (hn : n ≤ 1048576) :
    Calls Tryf.prog 8 #[.slice (some a) n cap] w fun e w' => e = .returned (.slice (some ⟨w.heap.size, 0, none⟩) n n) ∧ Byt w' (some ⟨w.heap.size, 0, none⟩) n n xs ∧ w.heap.size < w'.heap.size ∧ Below w.heap.size w w' := by
  obtain ⟨hxn, hnc, hcm, _, hcell, hby⟩ := h
  have HX : Hid (xs.length = n) := hxn
  clear hxn
  have hnil := fun w => Lib.run_eql_slice_nil (P := Tryf.prog) w 22 5 (some a) n cap 0 0 Tryf.underlying22
  obtain ⟨i0, hi, hz0, hz1, hz2⟩ := info_parts info5
  have hib : i0.bytes * n ≤ 281474976710656 := by rw [hz2]; omega
  go_enter Tryf.func8, Tryf.ntmps8
  go_wp2_with (refine wpList_make_full _ rfl _ _ 22 rfl w.heap.size 5 i0 (.int .u8 0) 1 Tryf.underlying22 hi hz0 hz1 .i64 .i64 n n n rfl rfl rfl rfl hib (by unfold maxLen; omega) (Nat.le_refl _) ?_; intro w1 hown hgrow)
  have hown0 : w1.ownsRow w.heap.size 5 1 (.slice (some ⟨w.heap.size, 0, none⟩) n n) n (part xs 0) := by
    rw [part_zero, HX.out]
    have e : (madeCells (Value.int .u8 0).cells (n * 1)).toList = List.replicate n (.int .u8 0) := by
      rw [Nat.mul_one]; exact toList_madeCells_one _ _
    rwa [e] at hown
  have hb0 : Below w.heap.size w w1 := (Below.refl _ _).grown hgrow (Nat.le_refl _) (by simp)
  clear hown hgrow
  go_loopw [4] (fun i wr => ∃ k : Nat, k ≤ n ∧ i = .int .i64 k ∧ wr.ownsRow w.heap.size 5 1 (.slice (some ⟨w.heap.size, 0, none⟩) n n) n (part xs k) ∧ Below w.heap.size w wr) (fun i _ => n - (intOf i).toNat)
  case atStart => exact ⟨0, Nat.zero_le _, rfl, hown0, hb0⟩
  case round =>
    clear hown0 hb0
    obtain ⟨k, hk, rfl, hown, hbel⟩ := hrel
    by_cases hlt : k < n
    · obtain ⟨b, off, ha, hc⟩ := hcell (by omega)
      obtain rfl := Option.some.inj ha
      have hck : wr.cell? ⟨b, off + k, none⟩ = some (.int .u8 (xs.getD k 0)) := by rw [hbel.cell (lt_of_cell (hc k hlt)), hc k hlt]
      have hol : ∃ v, wr.cell? ⟨w.heap.size, k, none⟩ = some v := by
        rw [hown.cellAt k (by omega)]
        exact ⟨_, List.getElem?_eq_getElem (by rw [part_length, HX.out]; exact hlt)⟩
      obtain ⟨v, hv⟩ := hol
      have hfr := hown.frozenAt k
      have R := hown.stored k (.int .u8 (xs.getD k 0))
      rw [part_set xs k (by rw [HX.out]; exact hlt)] at R
      have HR := R
      clear R
      go_wp2
      go_roundw
      case rel => exact ⟨k + 1, by omega, by go_num, by simpa using HR.1, by simpa using hbel.setCell (Nat.le_refl _) _⟩
      case measure => simp [intOf]; omega
    · go_wp2
      go_ret
      have hkn : k = xs.length := by have := HX.out; omega
      rw [hkn, part_all] at hown
      exact ⟨rfl, byt_of_own hown hby, own_lt hown, hbel⟩
end Go.Proofs.Qxb6619177aFmt
