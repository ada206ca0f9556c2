import Derived.Test.Qxb6619177aFmtClone
namespace Go.Proofs.Qxb6619177aFmt
open Go.RowKit
set_option linter.unusedVariables false
set_option linter.unusedSimpArgs false

theorem take_succ_map (xs : List Int) (k : Nat) (h : k < xs.length) : (xs.take k).map (Value.int .u8) ++ [.int .u8 (xs.getD k 0)] = (xs.take (k + 1)).map (Value.int .u8) := by
  rw [List.take_succ_eq_append_getElem h, List.map_append]
  congr 1
  simp [List.getD_eq_getElem?_getD, h]

set_option maxHeartbeats 1600000 in
theorem concat_any (a b : Option Addr) (n m c d : Nat) (xs ys : List Int) (w : World) (ha : Byt w a n c xs) (hb : Byt w b m d ys) (hn : n ≤ 2097152) (hm : m ≤ 2097152) :
    Calls Tryf.prog 14 #[.slice a n c, .slice b m d] w fun e w' => e = .returned (.slice (some ⟨w.heap.size, 0, none⟩) (n + m) (n + m)) ∧ Byt w' (some ⟨w.heap.size, 0, none⟩) (n + m) (n + m) (xs ++ ys) ∧ w.heap.size < w'.heap.size ∧ Below w.heap.size w w' := by
  obtain ⟨hxn, hnc, hcm, _, hcx, hbx⟩ := ha
  obtain ⟨hyn, hmd, hdm, _, hcy, hby⟩ := hb
  have HX : Hid (xs.length = n) := hxn
  have HY : Hid (ys.length = m) := hyn
  have HCX : Hid (n ≠ 0 → ∃ b off, a = some ⟨b, off, none⟩ ∧ ∀ i, i < n → w.cell? ⟨b, off + i, none⟩ = some (.int .u8 (xs.getD i 0))) := hcx
  have HCY : Hid (m ≠ 0 → ∃ b' off, b = some ⟨b', off, none⟩ ∧ ∀ i, i < m → w.cell? ⟨b', off + i, none⟩ = some (.int .u8 (ys.getD i 0))) := hcy
  clear hxn hyn hcx hcy
  obtain ⟨i0, hi, hz0, hz1, hz2⟩ := info_parts info5
  have hib : i0.bytes * (n + m) ≤ 281474976710656 := by rw [hz2]; omega
  go_enter Tryf.func14, Tryf.ntmps14
  go_wp2_with (refine wpList_make_own _ rfl _ _ 22 rfl w.heap.size 5 i0 (.int .u8 0) 1 Tryf.underlying22 hi hz0 hz1 .i64 .i64 _ (n + m) rfl rfl (by omega) hib (by unfold maxLen; omega) (Nat.le_refl _) ?_; intro w1 hown hgrow)
  have hb0 : Below w.heap.size w w1 := (Below.refl _ _).grown hgrow (Nat.le_refl _) (by simp)
  clear hgrow
  go_loopw [5, 6] (fun v i wr => ∃ k : Nat, k ≤ n ∧ i = .int .i64 k ∧ v = .slice (some ⟨w.heap.size, 0, none⟩) k (n + m) ∧ wr.ownsRow w.heap.size 5 1 (.slice (some ⟨w.heap.size, 0, none⟩) k (n + m)) k ((xs.take k).map (Value.int .u8)) ∧ Below w.heap.size w wr) (fun _ i _ => n - (intOf i).toNat)
  case atStart => exact ⟨0, Nat.zero_le _, rfl, rfl, by simpa using hown, hb0⟩
  case round =>
    clear hown hb0
    obtain ⟨k, hk, rfl, rfl, hown, hbel⟩ := hrel
    by_cases hlt : k < n
    · obtain ⟨b1, off, rfl, hc⟩ := HCX.out (by omega)
      have hck : wr.cell? ⟨b1, off + k, none⟩ = some (.int .u8 (xs.getD k 0)) := by rw [hbel.cell (lt_of_cell (hc k hlt)), hc k hlt]
      have hsz := hbel.size
      clear hc
      go_wp2_with (at_builtin; refine wpList_append_fits _ rfl _ _ 22 rfl w.heap.size 5 i0 1 Tryf.underlying22 hi hz1 w.heap.size k (n + m) _ rfl (hown.alloc _) ⟨wr.heap.size, 0, none⟩ 1 1 [.int .u8 (xs.getD k 0)] rfl rfl (cell_one_new _ _ _) (by intro u hu; simp at hu; subst hu; rfl) (by omega) ?_; intro w2 hown2 hgrow2)
      go_roundw
      case rel =>
        rw [take_succ_map xs k (by rw [HX.out]; exact hlt)] at hown2
        exact ⟨k + 1, by omega, by go_num, rfl, hown2, (hbel.alloc (by omega) _).grown hgrow2 (by simp; omega) (by simp)⟩
      case measure => simp [intOf]; omega
    · have hkn : k = n := by omega
      subst hkn
      have hown' : wr.ownsRow w.heap.size 5 1 (.slice (some ⟨w.heap.size, 0, none⟩) k (k + m)) k (xs.map (Value.int .u8)) := by
        rw [List.take_of_length_le (by rw [HX.out]; exact Nat.le_refl _)] at hown; exact hown
      clear hown
      go_wp2
      go_loopw [5, 7] (fun v i wr => ∃ j : Nat, j ≤ m ∧ i = .int .i64 j ∧ v = .slice (some ⟨w.heap.size, 0, none⟩) (k + j) (k + m) ∧ wr.ownsRow w.heap.size 5 1 (.slice (some ⟨w.heap.size, 0, none⟩) (k + j) (k + m)) (k + j) (xs.map (Value.int .u8) ++ (ys.take j).map (Value.int .u8)) ∧ Below w.heap.size w wr) (fun _ i _ => m - (intOf i).toNat)
      case atStart => exact ⟨0, Nat.zero_le _, rfl, rfl, by simpa using hown', hbel⟩
      case round =>
        clear hown' hbel
        obtain ⟨j, hj, rfl, rfl, hown, hbel⟩ := hrel
        by_cases hlt' : j < m
        · obtain ⟨b1, off, rfl, hc⟩ := HCY.out (by omega)
          have hck : wr.cell? ⟨b1, off + j, none⟩ = some (.int .u8 (ys.getD j 0)) := by rw [hbel.cell (lt_of_cell (hc j hlt')), hc j hlt']
          have hsz := hbel.size
          clear hc
          go_wp2_with (at_builtin; refine wpList_append_fits _ rfl _ _ 22 rfl w.heap.size 5 i0 1 Tryf.underlying22 hi hz1 w.heap.size (k + j) (k + m) _ rfl (hown.alloc _) ⟨wr.heap.size, 0, none⟩ 1 1 [.int .u8 (ys.getD j 0)] rfl rfl (cell_one_new _ _ _) (by intro u hu; simp at hu; subst hu; rfl) (by omega) ?_; intro w2 hown2 hgrow2)
          go_roundw
          case rel =>
            rw [List.append_assoc, take_succ_map ys j (by rw [HY.out]; exact hlt')] at hown2
            exact ⟨j + 1, by omega, by go_num, rfl, hown2, (hbel.alloc (by omega) _).grown hgrow2 (by simp; omega) (by simp)⟩
          case measure => simp [intOf]; omega
        · have hjm : j = m := by omega
          subst hjm
          go_wp2
          go_ret
          rw [List.take_of_length_le (by rw [HY.out]; exact Nat.le_refl _), ← List.map_append] at hown
          exact ⟨rfl, byt_of_own hown (by intro x hx; rcases List.mem_append.1 hx with h | h; exact hbx x h; exact hby x h), own_lt hown, hbel⟩
end Go.Proofs.Qxb6619177aFmt
