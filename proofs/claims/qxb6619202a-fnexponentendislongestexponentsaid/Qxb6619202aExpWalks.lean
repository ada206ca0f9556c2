import Derived.Test.Qxb6619202aRows
import Derived.WalkKit
import Derived.WalkSpells
import Derived.WalkLawsBesides
import Derived.WalkSmall
namespace Go.Proofs.Qxb6619202a
open Go.RowKit
set_option linter.unusedVariables false
set_option linter.unusedSimpArgs false

/-- the byte at place i (0 where there is none). -/
def bt (s : ByteArray) (i : Nat) : Int := if h : i < s.size then ((s[i]'h).toNat : Int) else 0
theorem idx_run (s : ByteArray) (i : Nat) (I : Int) (hI : I = (i : Int)) (h : i < s.size) (wx : World) : (Instr.index 9 (.string s) (.int .i64 I)).run Try.prog wx = .ok (.int .u8 (bt s i)) wx := by
  subst hI
  rw [run_index_string wx 9 s .i64 _ Try.underlying9, dif_pos (by omega)]
  simp [bt, h]
theorem bt_byte (s : ByteArray) (i : Nat) : 0 ≤ bt s i ∧ bt s i ≤ 255 := by
  unfold bt
  split
  · rename_i h
    have := (s[i]'h).toNat_lt
    omega
  · omega

/-! ### THE PLAIN WORDS -/
def Dig (s : ByteArray) (i : Nat) : Prop := 48 ≤ bt s i ∧ bt s i ≤ 57
def Ee (s : ByteArray) (i : Nat) : Prop := bt s i = 101 ∨ bt s i = 69
def Sgn (s : ByteArray) (i : Nat) : Prop := bt s i = 43 ∨ bt s i = 45
/-- e is where the digits from j on end. -/
def DEnd (s : ByteArray) (j e : Nat) : Prop := j ≤ e ∧ e ≤ s.size ∧ (∀ k, j ≤ k → k < e → Dig s k) ∧ (e = s.size ∨ ¬ Dig s e)

set_option maxHeartbeats 800000 in
theorem isdig_yes (c : Int) (w : World) (h0 : 48 ≤ c) (h1 : c ≤ 57) : Calls Try.prog 21 #[.int .u8 c] w fun e w' => e = .returned (.bool true) ∧ w' = w := by
  go_enter Try.func21, Try.ntmps21
  go_wp2
  go_ret
  exact ⟨rfl, rfl⟩
set_option maxHeartbeats 800000 in
theorem isdig_no (c : Int) (w : World) (h : ¬ (48 ≤ c ∧ c ≤ 57)) : Calls Try.prog 21 #[.int .u8 c] w fun e w' => e = .returned (.bool false) ∧ w' = w := by
  by_cases h0 : 48 ≤ c
  · have h1 : decide (c ≤ 57) = false := by simp; omega
    clear h
    go_enter Try.func21, Try.ntmps21
    go_wp2
    go_ret
    exact ⟨rfl, rfl⟩
  · have h1 : c < 48 := by omega
    clear h h0
    go_enter Try.func21, Try.ntmps21
    go_wp2
    go_ret
    exact ⟨rfl, rfl⟩

set_option maxHeartbeats 1600000 in
/-- digitsEnd BY ITS CONTRACT. -/
theorem dend_any (s : ByteArray) (lb j : Nat) (w : World) (hc : w.cell? ⟨lb, 0, none⟩ = some (.string s)) (hs : s.size ≤ 1048576) (hj : j ≤ s.size) :
    Calls Try.prog 20 #[.pointer (some ⟨lb, 0, none⟩), .int .i64 (j : Int)] w fun e w' => (∃ r : Nat, e = .returned (.int .i64 (r : Int)) ∧ DEnd s j r) ∧ w' = w := by
  go_enter Try.func20, Try.ntmps20
  go_wp2
  go_loop [1] (fun i => ∃ k : Nat, k ≤ s.size ∧ i = .int .i64 (k : Int) ∧ Hid (j ≤ k ∧ ∀ m, j ≤ m → m < k → Dig s m)) (fun i => s.size - (intOf i).toNat)
  case atStart => exact ⟨j, hj, rfl, Nat.le_refl _, fun m h1 h2 => by omega⟩
  case round =>
    obtain ⟨k, hk, rfl, hall⟩ := hrel
    by_cases hlt : k < s.size
    · obtain ⟨c, hce⟩ : ∃ c, c = bt s k := ⟨_, rfl⟩
      have i1 := fun wx => idx_run s k (k : Int) rfl hlt wx
      rw [← hce] at i1
      have HC : Hid (c = bt s k) := hce
      clear hce
      have hl' : (k : Int) < (s.size : Int) := by omega
      by_cases hd : 48 ≤ c ∧ c ≤ 57
      · obtain ⟨d0, d1⟩ := hd
        go_wp2_with (go_at_call 21; refine (isdig_yes c _ d0 d1).mono ?_; rintro e w' ⟨rfl, rfl⟩)
        go_round
        case rel =>
          refine ⟨k + 1, by omega, by go_num, by have := hall.out.1; omega, fun m h1 h2 => ?_⟩
          by_cases hm : m < k
          · exact hall.out.2 m h1 hm
          · obtain rfl : m = k := by omega
            unfold Dig
            rw [← HC.out]
            exact ⟨d0, d1⟩
        case measure => simp [intOf]; omega
      · have HD : Hid (¬ (48 ≤ c ∧ c ≤ 57)) := hd
        clear hd
        go_wp2_with (go_at_call 21; refine (isdig_no c _ HD.out).mono ?_; rintro e w' ⟨rfl, rfl⟩)
        go_ret
        refine ⟨⟨k, rfl, hall.out.1, hk, hall.out.2, Or.inr ?_⟩, rfl⟩
        unfold Dig
        rw [← HC.out]
        exact HD.out
    · have hl' : (s.size : Int) ≤ (k : Int) := by omega
      go_wp2
      go_ret
      exact ⟨⟨k, rfl, hall.out.1, hk, hall.out.2, Or.inl (by omega)⟩, rfl⟩

/-! ### exponentEnd -/
set_option maxRecDepth 100000 in
set_option maxHeartbeats 1600000 in
theorem ee_end (s : ByteArray) (lb : Nat) (w : World) (hc : w.cell? ⟨lb, 0, none⟩ = some (.string s)) (hs : s.size ≤ 1048576) :
    Calls Try.prog 17 #[.pointer (some ⟨lb, 0, none⟩), .int .i64 (s.size : Int)] w fun e w' => e = .returned (.int .i64 (s.size : Int)) ∧ w' = w := by
  go_enter Try.func17, Try.ntmps17
  go_wp2
  go_ret
  exact ⟨rfl, rfl⟩

set_option maxRecDepth 100000 in
set_option maxHeartbeats 1600000 in
theorem ee_none (s : ByteArray) (lb i : Nat) (c0 : Int) (w : World) (hc : w.cell? ⟨lb, 0, none⟩ = some (.string s)) (hs : s.size ≤ 1048576) (hi : i < s.size) (hc0 : Hid (c0 = bt s i)) (h1 : (c0 != 101) = true) (h2 : (c0 != 69) = true) :
    Calls Try.prog 17 #[.pointer (some ⟨lb, 0, none⟩), .int .i64 (i : Int)] w fun e w' => e = .returned (.int .i64 (i : Int)) ∧ w' = w := by
  have i0 := fun wx => idx_run s i (i : Int) rfl hi wx
  rw [← hc0.out] at i0
  have hne : ((i : Int) == (s.size : Int)) = false := by simp; omega
  go_enter Try.func17, Try.ntmps17
  go_wp2
  go_ret
  exact ⟨rfl, rfl⟩

set_option maxRecDepth 100000 in
set_option maxHeartbeats 1600000 in
theorem ee_ep (s : ByteArray) (lb i : Nat) (c0 : Int) (c1 : Int) (w : World) (hc : w.cell? ⟨lb, 0, none⟩ = some (.string s)) (hs : s.size ≤ 1048576) (hi : i < s.size) (hc0 : Hid (c0 = bt s i)) (h1 : (c0 != 101) = false) (hi1 : i + 1 < s.size) (hc1 : Hid (c1 = bt s (i + 1))) (h3 : (c1 == 43) = true) :
    Calls Try.prog 17 #[.pointer (some ⟨lb, 0, none⟩), .int .i64 (i : Int)] w fun e w' => (∃ r d : Nat, e = .returned (.int .i64 (r : Int)) ∧ DEnd s (i + 2) d ∧ ((r = d ∧ i + 2 < d) ∨ (r = i ∧ d = i + 2))) ∧ w' = w := by
  have i0 := fun wx => idx_run s i (i : Int) rfl hi wx
  rw [← hc0.out] at i0
  have i1 := fun wx => idx_run s (i + 1) ((i : Int) + 1) (by omega) hi1 wx
  rw [← hc1.out] at i1
  have hl1 : (i : Int) + 1 < (s.size : Int) := by omega
  have hne : ((i : Int) == (s.size : Int)) = false := by simp; omega
  go_enter Try.func17, Try.ntmps17
  go_wp2_with fail
  rw [show ((i : Int) + 1 + 1) = ((i + 2 : Nat) : Int) by omega]
  refine (dend_any s lb (i + 2) w hc hs (by omega)).mono ?_
  rintro e w' ⟨⟨d, rfl, hd⟩, rfl⟩
  have hd1 := hd.1
  have hd2 := hd.2.1
  have HD : Hid (DEnd s (i + 2) d) := hd
  clear hd
  by_cases hgt : i + 2 < d
  · go_wp2
    go_ret
    exact ⟨⟨d, d, rfl, HD.out, Or.inl ⟨rfl, hgt⟩⟩, rfl⟩
  · go_wp2
    go_ret
    exact ⟨⟨i, d, rfl, HD.out, Or.inr ⟨rfl, by omega⟩⟩, rfl⟩

set_option maxRecDepth 100000 in
set_option maxHeartbeats 1600000 in
theorem ee_em (s : ByteArray) (lb i : Nat) (c0 : Int) (c1 : Int) (w : World) (hc : w.cell? ⟨lb, 0, none⟩ = some (.string s)) (hs : s.size ≤ 1048576) (hi : i < s.size) (hc0 : Hid (c0 = bt s i)) (h1 : (c0 != 101) = false) (hi1 : i + 1 < s.size) (hc1 : Hid (c1 = bt s (i + 1))) (h3 : (c1 == 43) = false) (h4 : (c1 == 45) = true) :
    Calls Try.prog 17 #[.pointer (some ⟨lb, 0, none⟩), .int .i64 (i : Int)] w fun e w' => (∃ r d : Nat, e = .returned (.int .i64 (r : Int)) ∧ DEnd s (i + 2) d ∧ ((r = d ∧ i + 2 < d) ∨ (r = i ∧ d = i + 2))) ∧ w' = w := by
  have i0 := fun wx => idx_run s i (i : Int) rfl hi wx
  rw [← hc0.out] at i0
  have i1 := fun wx => idx_run s (i + 1) ((i : Int) + 1) (by omega) hi1 wx
  rw [← hc1.out] at i1
  have hl1 : (i : Int) + 1 < (s.size : Int) := by omega
  have hne : ((i : Int) == (s.size : Int)) = false := by simp; omega
  go_enter Try.func17, Try.ntmps17
  go_wp2_with fail
  rw [show ((i : Int) + 1 + 1) = ((i + 2 : Nat) : Int) by omega]
  refine (dend_any s lb (i + 2) w hc hs (by omega)).mono ?_
  rintro e w' ⟨⟨d, rfl, hd⟩, rfl⟩
  have hd1 := hd.1
  have hd2 := hd.2.1
  have HD : Hid (DEnd s (i + 2) d) := hd
  clear hd
  by_cases hgt : i + 2 < d
  · go_wp2
    go_ret
    exact ⟨⟨d, d, rfl, HD.out, Or.inl ⟨rfl, hgt⟩⟩, rfl⟩
  · go_wp2
    go_ret
    exact ⟨⟨i, d, rfl, HD.out, Or.inr ⟨rfl, by omega⟩⟩, rfl⟩

set_option maxRecDepth 100000 in
set_option maxHeartbeats 1600000 in
theorem ee_ez (s : ByteArray) (lb i : Nat) (c0 : Int) (c1 : Int) (w : World) (hc : w.cell? ⟨lb, 0, none⟩ = some (.string s)) (hs : s.size ≤ 1048576) (hi : i < s.size) (hc0 : Hid (c0 = bt s i)) (h1 : (c0 != 101) = false) (hi1 : i + 1 < s.size) (hc1 : Hid (c1 = bt s (i + 1))) (h3 : (c1 == 43) = false) (h4 : (c1 == 45) = false) :
    Calls Try.prog 17 #[.pointer (some ⟨lb, 0, none⟩), .int .i64 (i : Int)] w fun e w' => (∃ r d : Nat, e = .returned (.int .i64 (r : Int)) ∧ DEnd s (i + 1) d ∧ ((r = d ∧ i + 1 < d) ∨ (r = i ∧ d = i + 1))) ∧ w' = w := by
  have i0 := fun wx => idx_run s i (i : Int) rfl hi wx
  rw [← hc0.out] at i0
  have i1 := fun wx => idx_run s (i + 1) ((i : Int) + 1) (by omega) hi1 wx
  rw [← hc1.out] at i1
  have hl1 : (i : Int) + 1 < (s.size : Int) := by omega
  have hne : ((i : Int) == (s.size : Int)) = false := by simp; omega
  go_enter Try.func17, Try.ntmps17
  go_wp2_with fail
  rw [show ((i : Int) + 1) = ((i + 1 : Nat) : Int) by omega]
  refine (dend_any s lb (i + 1) w hc hs (by omega)).mono ?_
  rintro e w' ⟨⟨d, rfl, hd⟩, rfl⟩
  have hd1 := hd.1
  have hd2 := hd.2.1
  have HD : Hid (DEnd s (i + 1) d) := hd
  clear hd
  by_cases hgt : i + 1 < d
  · go_wp2
    go_ret
    exact ⟨⟨d, d, rfl, HD.out, Or.inl ⟨rfl, hgt⟩⟩, rfl⟩
  · go_wp2
    go_ret
    exact ⟨⟨i, d, rfl, HD.out, Or.inr ⟨rfl, by omega⟩⟩, rfl⟩

set_option maxRecDepth 100000 in
set_option maxHeartbeats 1600000 in
theorem ee_ex (s : ByteArray) (lb i : Nat) (c0 : Int)  (w : World) (hc : w.cell? ⟨lb, 0, none⟩ = some (.string s)) (hs : s.size ≤ 1048576) (hi : i < s.size) (hc0 : Hid (c0 = bt s i)) (h1 : (c0 != 101) = false) (hi1 : s.size ≤ i + 1)  :
    Calls Try.prog 17 #[.pointer (some ⟨lb, 0, none⟩), .int .i64 (i : Int)] w fun e w' => (∃ r d : Nat, e = .returned (.int .i64 (r : Int)) ∧ DEnd s (i + 1) d ∧ ((r = d ∧ i + 1 < d) ∨ (r = i ∧ d = i + 1))) ∧ w' = w := by
  have i0 := fun wx => idx_run s i (i : Int) rfl hi wx
  rw [← hc0.out] at i0
  have hl1 : (s.size : Int) ≤ (i : Int) + 1 := by omega
  have hne : ((i : Int) == (s.size : Int)) = false := by simp; omega
  go_enter Try.func17, Try.ntmps17
  go_wp2_with fail
  rw [show ((i : Int) + 1) = ((i + 1 : Nat) : Int) by omega]
  refine (dend_any s lb (i + 1) w hc hs (by omega)).mono ?_
  rintro e w' ⟨⟨d, rfl, hd⟩, rfl⟩
  have hd1 := hd.1
  have hd2 := hd.2.1
  have HD : Hid (DEnd s (i + 1) d) := hd
  clear hd
  by_cases hgt : i + 1 < d
  · exfalso; omega


  · go_wp2
    go_ret
    exact ⟨⟨i, d, rfl, HD.out, Or.inr ⟨rfl, by omega⟩⟩, rfl⟩

set_option maxRecDepth 100000 in
set_option maxHeartbeats 1600000 in
theorem ee_Ep (s : ByteArray) (lb i : Nat) (c0 : Int) (c1 : Int) (w : World) (hc : w.cell? ⟨lb, 0, none⟩ = some (.string s)) (hs : s.size ≤ 1048576) (hi : i < s.size) (hc0 : Hid (c0 = bt s i)) (h1 : (c0 != 101) = true) (h2 : (c0 != 69) = false) (hi1 : i + 1 < s.size) (hc1 : Hid (c1 = bt s (i + 1))) (h3 : (c1 == 43) = true) :
    Calls Try.prog 17 #[.pointer (some ⟨lb, 0, none⟩), .int .i64 (i : Int)] w fun e w' => (∃ r d : Nat, e = .returned (.int .i64 (r : Int)) ∧ DEnd s (i + 2) d ∧ ((r = d ∧ i + 2 < d) ∨ (r = i ∧ d = i + 2))) ∧ w' = w := by
  have i0 := fun wx => idx_run s i (i : Int) rfl hi wx
  rw [← hc0.out] at i0
  have i1 := fun wx => idx_run s (i + 1) ((i : Int) + 1) (by omega) hi1 wx
  rw [← hc1.out] at i1
  have hl1 : (i : Int) + 1 < (s.size : Int) := by omega
  have hne : ((i : Int) == (s.size : Int)) = false := by simp; omega
  go_enter Try.func17, Try.ntmps17
  go_wp2_with fail
  rw [show ((i : Int) + 1 + 1) = ((i + 2 : Nat) : Int) by omega]
  refine (dend_any s lb (i + 2) w hc hs (by omega)).mono ?_
  rintro e w' ⟨⟨d, rfl, hd⟩, rfl⟩
  have hd1 := hd.1
  have hd2 := hd.2.1
  have HD : Hid (DEnd s (i + 2) d) := hd
  clear hd
  by_cases hgt : i + 2 < d
  · go_wp2
    go_ret
    exact ⟨⟨d, d, rfl, HD.out, Or.inl ⟨rfl, hgt⟩⟩, rfl⟩
  · go_wp2
    go_ret
    exact ⟨⟨i, d, rfl, HD.out, Or.inr ⟨rfl, by omega⟩⟩, rfl⟩

set_option maxRecDepth 100000 in
set_option maxHeartbeats 1600000 in
theorem ee_Em (s : ByteArray) (lb i : Nat) (c0 : Int) (c1 : Int) (w : World) (hc : w.cell? ⟨lb, 0, none⟩ = some (.string s)) (hs : s.size ≤ 1048576) (hi : i < s.size) (hc0 : Hid (c0 = bt s i)) (h1 : (c0 != 101) = true) (h2 : (c0 != 69) = false) (hi1 : i + 1 < s.size) (hc1 : Hid (c1 = bt s (i + 1))) (h3 : (c1 == 43) = false) (h4 : (c1 == 45) = true) :
    Calls Try.prog 17 #[.pointer (some ⟨lb, 0, none⟩), .int .i64 (i : Int)] w fun e w' => (∃ r d : Nat, e = .returned (.int .i64 (r : Int)) ∧ DEnd s (i + 2) d ∧ ((r = d ∧ i + 2 < d) ∨ (r = i ∧ d = i + 2))) ∧ w' = w := by
  have i0 := fun wx => idx_run s i (i : Int) rfl hi wx
  rw [← hc0.out] at i0
  have i1 := fun wx => idx_run s (i + 1) ((i : Int) + 1) (by omega) hi1 wx
  rw [← hc1.out] at i1
  have hl1 : (i : Int) + 1 < (s.size : Int) := by omega
  have hne : ((i : Int) == (s.size : Int)) = false := by simp; omega
  go_enter Try.func17, Try.ntmps17
  go_wp2_with fail
  rw [show ((i : Int) + 1 + 1) = ((i + 2 : Nat) : Int) by omega]
  refine (dend_any s lb (i + 2) w hc hs (by omega)).mono ?_
  rintro e w' ⟨⟨d, rfl, hd⟩, rfl⟩
  have hd1 := hd.1
  have hd2 := hd.2.1
  have HD : Hid (DEnd s (i + 2) d) := hd
  clear hd
  by_cases hgt : i + 2 < d
  · go_wp2
    go_ret
    exact ⟨⟨d, d, rfl, HD.out, Or.inl ⟨rfl, hgt⟩⟩, rfl⟩
  · go_wp2
    go_ret
    exact ⟨⟨i, d, rfl, HD.out, Or.inr ⟨rfl, by omega⟩⟩, rfl⟩

set_option maxRecDepth 100000 in
set_option maxHeartbeats 1600000 in
theorem ee_Ez (s : ByteArray) (lb i : Nat) (c0 : Int) (c1 : Int) (w : World) (hc : w.cell? ⟨lb, 0, none⟩ = some (.string s)) (hs : s.size ≤ 1048576) (hi : i < s.size) (hc0 : Hid (c0 = bt s i)) (h1 : (c0 != 101) = true) (h2 : (c0 != 69) = false) (hi1 : i + 1 < s.size) (hc1 : Hid (c1 = bt s (i + 1))) (h3 : (c1 == 43) = false) (h4 : (c1 == 45) = false) :
    Calls Try.prog 17 #[.pointer (some ⟨lb, 0, none⟩), .int .i64 (i : Int)] w fun e w' => (∃ r d : Nat, e = .returned (.int .i64 (r : Int)) ∧ DEnd s (i + 1) d ∧ ((r = d ∧ i + 1 < d) ∨ (r = i ∧ d = i + 1))) ∧ w' = w := by
  have i0 := fun wx => idx_run s i (i : Int) rfl hi wx
  rw [← hc0.out] at i0
  have i1 := fun wx => idx_run s (i + 1) ((i : Int) + 1) (by omega) hi1 wx
  rw [← hc1.out] at i1
  have hl1 : (i : Int) + 1 < (s.size : Int) := by omega
  have hne : ((i : Int) == (s.size : Int)) = false := by simp; omega
  go_enter Try.func17, Try.ntmps17
  go_wp2_with fail
  rw [show ((i : Int) + 1) = ((i + 1 : Nat) : Int) by omega]
  refine (dend_any s lb (i + 1) w hc hs (by omega)).mono ?_
  rintro e w' ⟨⟨d, rfl, hd⟩, rfl⟩
  have hd1 := hd.1
  have hd2 := hd.2.1
  have HD : Hid (DEnd s (i + 1) d) := hd
  clear hd
  by_cases hgt : i + 1 < d
  · go_wp2
    go_ret
    exact ⟨⟨d, d, rfl, HD.out, Or.inl ⟨rfl, hgt⟩⟩, rfl⟩
  · go_wp2
    go_ret
    exact ⟨⟨i, d, rfl, HD.out, Or.inr ⟨rfl, by omega⟩⟩, rfl⟩

set_option maxRecDepth 100000 in
set_option maxHeartbeats 1600000 in
theorem ee_Ex (s : ByteArray) (lb i : Nat) (c0 : Int)  (w : World) (hc : w.cell? ⟨lb, 0, none⟩ = some (.string s)) (hs : s.size ≤ 1048576) (hi : i < s.size) (hc0 : Hid (c0 = bt s i)) (h1 : (c0 != 101) = true) (h2 : (c0 != 69) = false) (hi1 : s.size ≤ i + 1)  :
    Calls Try.prog 17 #[.pointer (some ⟨lb, 0, none⟩), .int .i64 (i : Int)] w fun e w' => (∃ r d : Nat, e = .returned (.int .i64 (r : Int)) ∧ DEnd s (i + 1) d ∧ ((r = d ∧ i + 1 < d) ∨ (r = i ∧ d = i + 1))) ∧ w' = w := by
  have i0 := fun wx => idx_run s i (i : Int) rfl hi wx
  rw [← hc0.out] at i0
  have hl1 : (s.size : Int) ≤ (i : Int) + 1 := by omega
  have hne : ((i : Int) == (s.size : Int)) = false := by simp; omega
  go_enter Try.func17, Try.ntmps17
  go_wp2_with fail
  rw [show ((i : Int) + 1) = ((i + 1 : Nat) : Int) by omega]
  refine (dend_any s lb (i + 1) w hc hs (by omega)).mono ?_
  rintro e w' ⟨⟨d, rfl, hd⟩, rfl⟩
  have hd1 := hd.1
  have hd2 := hd.2.1
  have HD : Hid (DEnd s (i + 1) d) := hd
  clear hd
  by_cases hgt : i + 1 < d
  · exfalso; omega


  · go_wp2
    go_ret
    exact ⟨⟨i, d, rfl, HD.out, Or.inr ⟨rfl, by omega⟩⟩, rfl⟩

end Go.Proofs.Qxb6619202a
