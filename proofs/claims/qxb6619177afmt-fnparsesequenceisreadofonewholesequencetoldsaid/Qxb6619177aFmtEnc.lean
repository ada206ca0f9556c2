import Derived.Test.Qxb6619177aFmtConcat
namespace Go.Proofs.Qxb6619177aFmt
open Go.RowKit
set_option linter.unusedVariables false
set_option linter.unusedSimpArgs false

/-! ### THE PLAIN FUNCTION: the DER length field of n, n below 2^32 -/
/-- how many octets n takes (n at least 1). -/
def nb (n : Nat) : Nat := if n < 256 then 1 else if n < 65536 then 2 else if n < 16777216 then 3 else 4
/-- its j-th octet, least significant first. -/
def dg (n j : Nat) : Nat := n / 256 ^ j % 256
def encK (n k t : Nat) : List Int := ((128 + k : Nat) : Int) :: (List.range t).map (fun s => ((dg n (k - 1 - s) : Nat) : Int))
def encL (n : Nat) : List Int := if n < 128 then [(n : Int)] else encK n (nb n) (nb n)

theorem nb_of (n k : Nat) (hn : 128 ≤ n) (hm : n < 4294967296) (h0 : n / 256 ^ k = 0) (h1 : ∀ i, i < k → 0 < n / 256 ^ i) : k = nb n := by
  have hk4 : k ≤ 4 := by
    by_cases h : k ≤ 4
    · exact h
    · have := h1 4 (by omega)
      simp at this
      omega
  have c : k = 0 ∨ k = 1 ∨ k = 2 ∨ k = 3 ∨ k = 4 := by omega
  rcases c with rfl | rfl | rfl | rfl | rfl
  · simp at h0; omega
  · unfold nb; simp at h0; rw [if_pos (by omega)]
  · have := h1 1 (by omega); simp at this h0; unfold nb; rw [if_neg (by omega), if_pos (by omega)]
  · have := h1 2 (by omega); simp at this h0; unfold nb; rw [if_neg (by omega), if_neg (by omega), if_pos (by omega)]
  · have := h1 3 (by omega); simp at this h0; unfold nb; rw [if_neg (by omega), if_neg (by omega), if_neg (by omega)]
theorem nb_le (n : Nat) : 1 ≤ nb n ∧ nb n ≤ 4 := by unfold nb; split; omega; split; omega; split; omega; omega
theorem zero_at8 (n : Nat) (hm : n < 4294967296) : n / 256 ^ 8 = 0 := by
  apply Nat.div_eq_of_lt; omega
theorem encK_byte (n k t : Nat) (hk : k ≤ 4) : ∀ x ∈ encK n k t, 0 ≤ x ∧ x ≤ 255 := by
  intro x hx
  simp only [encK, List.mem_cons, List.mem_map] at hx
  rcases hx with rfl | ⟨s, _, rfl⟩
  · omega
  · unfold dg; omega
theorem encK_length (n k t : Nat) : (encK n k t).length = t + 1 := by simp [encK]
theorem encK_succ (n k t : Nat) : (encK n k t).map (Value.int .u8) ++ [.int .u8 (dg n (k - 1 - t) : Nat)] = (encK n k (t + 1)).map (Value.int .u8) := by
  simp [encK, List.range_succ]
theorem encK_zero (n k : Nat) : (encK n k 0).map (Value.int .u8) = [.int .u8 ((128 + k : Nat) : Int)] := by simp [encK]
theorem encL_byte (n : Nat) : ∀ x ∈ encL n, 0 ≤ x ∧ x ≤ 255 := by
  unfold encL
  split
  · intro x hx; simp at hx; omega
  · exact encK_byte n _ _ (nb_le n).2

set_option maxHeartbeats 800000 in
theorem enc_short (n : Nat) (w : World) (hn : n < 128) :
    Calls Tryf.prog 21 #[.int .u64 n] w fun e w' => e = .returned (.slice (some ⟨w.heap.size, 0, none⟩) 1 1) ∧ w' = w.alloc (.cells #[.int .u8 n] 5) := by
  have hn' : (n : Int) < 128 := by omega
  go_enter Tryf.func21, Tryf.ntmps21
  go_wp2
  go_ret
  exact ⟨rfl, rfl⟩

theorem or_128 (k : Nat) (hk : k ≤ 4) : bits BinOp.or IntKind.i64 128 (k : Int) = 128 + (k : Int) := by
  have c : k = 0 ∨ k = 1 ∨ k = 2 ∨ k = 3 ∨ k = 4 := by omega
  rcases c with rfl | rfl | rfl | rfl | rfl <;> decide

set_option maxRecDepth 100000 in
set_option maxHeartbeats 1600000 in
theorem enc_long (n : Nat) (w : World) (hn : 128 ≤ n) (hm : n < 4294967296) :
    Calls Tryf.prog 21 #[.int .u64 n] w fun e w' => e = .returned (.slice (some ⟨w.heap.size + 1, 0, none⟩) (nb n + 1) (nb n + 1)) ∧ Byt w' (some ⟨w.heap.size + 1, 0, none⟩) (nb n + 1) (nb n + 1) (encK n (nb n) (nb n)) ∧ Below w.heap.size w w' := by
  have hn' : (128 : Int) ≤ n := by omega
  have HM : Hid (n < 4294967296) := hm
  clear hm
  obtain ⟨i0, hi, hz0, hz1, hz2⟩ := info_parts info5
  go_enter Tryf.func21, Tryf.ntmps21
  go_wp2
  go_loopw [4, 5] (fun m v wr => ∃ k v' : Nat, k ≤ 8 ∧ Hid (v' = n / 256 ^ k) ∧ Hid (∀ i, i < k → 0 < n / 256 ^ i) ∧ m = .int .i64 k ∧ v = .int .u64 v' ∧
      Hid (∀ j, j < 8 → ∃ u, wr.cell? ⟨w.heap.size, j, none⟩ = some u) ∧ Hid (∀ j, j < k → wr.cell? ⟨w.heap.size, j, none⟩ = some (.int .u8 (dg n j))) ∧ Hid (∀ j, wr.frozen? ⟨w.heap.size, j, none⟩ = false) ∧ Hid (wr.heap.size = w.heap.size + 1) ∧ Below w.heap.size w wr) (fun m _ _ => 8 - (intOf m).toNat)
  case atStart =>
    refine ⟨0, n, by omega, by simp [Hid], by simp [Hid], rfl, rfl, ?_, by simp [Hid], ?_, by simp [Hid], (Below.refl _ _).alloc (Nat.le_refl _) _⟩
    · intro j hj
      have c : j = 0 ∨ j = 1 ∨ j = 2 ∨ j = 3 ∨ j = 4 ∨ j = 5 ∨ j = 6 ∨ j = 7 := by omega
      rcases c with rfl | rfl | rfl | rfl | rfl | rfl | rfl | rfl <;> simp
    · intro j
      simp
  case round =>
    obtain ⟨k, v, hk, hv, hpos, rfl, rfl, hx, hd, hf, hs, hbel⟩ := hrel
    by_cases hgo : 0 < v ∧ k < 8
    · obtain ⟨hv0, hk8⟩ := hgo
      obtain ⟨u, hx1⟩ := hx.out k hk8
      have hf1 := hf.out k
      go_wp2
      go_roundw
      case rel =>
        refine ⟨k + 1, v / 256, by omega, ?_, ?_, by go_num, by go_num, ?_, ?_, ?_, ?_, hbel.setCell (Nat.le_refl _) _⟩
        · show v / 256 = n / 256 ^ (k + 1)
          rw [hv.out, Nat.div_div_eq_div_mul, Nat.pow_succ]
        · intro i hi
          by_cases h : i < k
          · exact hpos.out i h
          · have : i = k := by omega
            subst this; rw [← hv.out]; exact hv0
        · intro j hj
          by_cases h : j = k
          · subst h; exact ⟨_, World.cell?_setCell_same _ _ _ hx1⟩
          · obtain ⟨u', hu'⟩ := hx.out j hj
            exact ⟨u', by rw [World.cell?_setCell_other _ _ _ _ (by intro hh; injection hh; omega)]; exact hu'⟩
        · intro j hj
          by_cases h : j = k
          · subst h
            rw [World.cell?_setCell_same _ _ _ hx1]
            have e : ((dg n j : Nat) : Int) = (v : Int) % 256 := by unfold dg; rw [← hv.out]; omega
            rw [e]
          · rw [World.cell?_setCell_other _ _ _ _ (by intro hh; injection hh; omega)]
            exact hd.out j (by omega)
        · intro j
          rw [World.frozen?_setCell]
          exact hf.out j
        · show _ = _
          rw [World.size_setCell]
          exact hs.out
      case measure => simp [intOf]; omega
    · have hv0 : v = 0 := by
        by_cases h : 0 < v
        · have h8 : k = 8 := by omega
          have := zero_at8 n HM.out
          have hv' := hv.out
          subst h8
          omega
        · omega
      subst hv0
      have hkn := nb_of n k hn HM.out hv.out.symm hpos.out
      have hb4 := nb_le n
      rw [← hkn] at hb4
      have HK : Hid (k = nb n) := hkn
      clear hgo hv hpos hx hkn
      have hib : i0.bytes * (k + 1) ≤ 281474976710656 := by rw [hz2]; omega
      have hs' : wr.heap.size = w.heap.size + 1 := hs.out
      have hor := or_128 k hb4.2
      have hb1 := hb4.1
      have hb2 := hb4.2
      clear hb4
      go_wp2_with (first | (refine wpList_make_own _ rfl _ _ 22 rfl (w.heap.size + 1) 5 i0 (.int .u8 0) 1 Tryf.underlying22 hi hz0 hz1 .i64 .i64 _ (k + 1) rfl rfl (by omega) hib (by unfold maxLen; omega) (by have := hs.out; omega) ?_; intro w1 hown hgrow; rw [hs'] at hown) | (at_builtin; refine wpList_append_fits _ rfl _ _ 22 rfl (w.heap.size + 1) 5 i0 1 Tryf.underlying22 hi hz1 (w.heap.size + 1) 0 (k + 1) _ rfl (hown.alloc _) ⟨w1.heap.size, 0, none⟩ 1 1 [.int .u8 (128 + (k : Int))] rfl rfl (cell_one_new _ _ _) (by intro u hu; simp at hu; subst hu; rfl) (by omega) ?_; intro w2 hown2 hgrow2))
      have hown3 : w2.ownsRow (w.heap.size + 1) 5 1 (.slice (some ⟨w.heap.size + 1, 0, none⟩) 1 (k + 1)) 1 ((encK n k 0).map (Value.int .u8)) := by
        rw [encK_zero]
        simpa using hown2
      have hb1' : Below (w.heap.size + 1) wr w2 := (((Below.refl _ _).grown hgrow (by omega) (by simp)).alloc (by have := hgrow.size; omega) _).grown hgrow2 (by have := hgrow.size; simp; omega) (by simp)
      clear hown hown2 hgrow hgrow2
      go_loopw [6, 7] (fun v i wq => ∃ j l : Nat, ∃ i' : Int, j ≤ k ∧ l ≤ k + 1 ∧ Hid (l = k - j + 1) ∧ Hid (i' = (j : Int) - 1) ∧ i = .int .i64 i' ∧ v = .slice (some ⟨w.heap.size + 1, 0, none⟩) l (k + 1) ∧
          wq.ownsRow (w.heap.size + 1) 5 1 (.slice (some ⟨w.heap.size + 1, 0, none⟩) l (k + 1)) l ((encK n k (k - j)).map (Value.int .u8)) ∧ Below (w.heap.size + 1) wr wq) (fun _ i _ => (intOf i + 1).toNat)
      case atStart => exact ⟨k, 1, (k : Int) - 1, Nat.le_refl _, by omega, by simp [Hid], rfl, rfl, rfl, by simpa using hown3, hb1'⟩
      case round =>
        clear hown3 hb1'
        obtain ⟨j, l, i', hj, hl, hl', hi', rfl, rfl, hown, hbel2⟩ := hrel
        by_cases hj0 : j = 0
        · subst hj0
          obtain rfl : i' = -1 := by have := hi'.out; omega
          go_wp2
          go_ret
          have hk' : k = nb n := HK.out
          rw [Nat.sub_zero] at hown
          rw [← hk']
          obtain rfl : l = k + 1 := by have := hl'.out; omega
          exact ⟨rfl, byt_of_own hown (encK_byte n k k hb2), hbel.trans (hbel2.mono (by omega))⟩
        · obtain ⟨q, rfl⟩ : ∃ q, j = q + 1 := ⟨j - 1, by omega⟩
          obtain rfl : i' = (q : Int) := by have := hi'.out; omega
          have hq8 : (q : Int) < 8 := by omega
          have hcq : wr.cell? ⟨w.heap.size, q, none⟩ = some (.int .u8 (dg n q)) := by
            rw [hbel2.cell (by simp)]; exact hd.out q (by omega)
          have hsz2 := hbel2.size
          have hdq : dg n q < 256 := by unfold dg; omega
          have e1 : k - (q + 1) + 1 = k - q := by omega
          have e2 := encK_succ n k (k - (q + 1))
          have e3 : k - 1 - (k - (q + 1)) = q := by omega
          rw [e3, e1] at e2
          have H2 : Hid ((encK n k (k - (q + 1))).map (Value.int .u8) ++ [.int .u8 (dg n q)] = (encK n k (k - q)).map (Value.int .u8)) := e2
          clear e2 e3 e1
          have hl3 : l ≤ k := by have := hl'.out; omega
          have hwb : w.heap.size + 1 ≤ wr.heap.size := by omega
          clear hs'
          go_wp2_with (at_builtin; refine wpList_append_fits _ rfl _ _ 22 rfl (w.heap.size + 1) 5 i0 1 Tryf.underlying22 hi hz1 (w.heap.size + 1) l (k + 1) _ rfl (hown.alloc _) ⟨wr.heap.size, 0, none⟩ 1 1 [.int .u8 (dg n q)] rfl rfl (cell_one_new _ _ _) (by intro u hu; simp at hu; subst hu; rfl) (by omega) ?_; intro w2 hown2 hgrow2)
          go_roundw
          case rel =>
            rw [H2.out] at hown2
            exact ⟨q, l + 1, (q : Int) - 1, by omega, by omega, (by have := hl'.out; show _ = _; omega), rfl, rfl, rfl, hown2, (hbel2.alloc hwb _).grown hgrow2 (by simp; omega) (by simp)⟩
          case measure => simp [intOf]

/-- encLen BY ITS CONTRACT. -/
theorem enc_any (n : Nat) (w : World) (hm : n < 4294967296) :
    Calls Tryf.prog 21 #[.int .u64 n] w fun e w' => ∃ g, e = .returned (.slice (some ⟨g, 0, none⟩) (encL n).length (encL n).length) ∧ Byt w' (some ⟨g, 0, none⟩) (encL n).length (encL n).length (encL n) ∧ Below w.heap.size w w' := by
  by_cases hn : n < 128
  · refine (enc_short n w hn).mono fun e w' ⟨he, hw⟩ => ?_
    have e1 : encL n = [(n : Int)] := by simp [encL, hn]
    rw [e1]
    subst he hw
    refine ⟨_, rfl, ⟨rfl, by simp, by simp, by simp, fun _ => ⟨_, 0, rfl, fun i hi => ?_⟩, ?_⟩, (Below.refl _ _).alloc (Nat.le_refl _) _⟩
    · have : i = 0 := by simpa using hi
      subst this
      simp
    · intro x hx; simp at hx; omega
  · refine (enc_long n w (by omega) hm).mono fun e w' ⟨he, hb, hbel⟩ => ?_
    have e1 : encL n = encK n (nb n) (nb n) := by simp [encL, hn]
    rw [e1, encK_length]
    exact ⟨_, he, hb, hbel⟩
end Go.Proofs.Qxb6619177aFmt
