import Derived.Test.Qxb6619202aExpWalks
namespace Go.Proofs.Qxb6619202a
open Go.RowKit
set_option linter.unusedVariables false
set_option linter.unusedSimpArgs false

/-! ### isExponentSpan -/
def SpPost (s : ByteArray) (k t : Nat) (w : World) (e : Ending) (w' : World) : Prop := (∃ r : Bool, e = .returned (.bool r) ∧ (r = true ↔ k < t ∧ ∀ m, k ≤ m → m < t → Dig s m)) ∧ w' = w
set_option maxRecDepth 100000 in
set_option maxHeartbeats 1600000 in
theorem sp_past (s : ByteArray) (f : Nat) (t : Int) (w : World) (hs : s.size ≤ 1048576) (h : (s.size : Int) < t) (hf : f ≤ 1048576) :
    Calls Try.prog 8 #[.string s, .int .i64 (f : Int), .int .i64 t] w fun e w' => e = .returned (.bool false) ∧ w' = w := by
  go_enter Try.func8, Try.ntmps8
  go_wp2
  go_ret
  exact ⟨rfl, rfl⟩
set_option maxRecDepth 100000 in
set_option maxHeartbeats 1600000 in
theorem sp_none (s : ByteArray) (f t : Nat) (c0 : Int) (w : World) (hs : s.size ≤ 1048576) (ht : t ≤ s.size) (hft : f + 2 ≤ t) (hc0 : Hid (c0 = bt s f)) (h1 : (c0 != 101) = true) (h2 : (c0 != 69) = true) :
    Calls Try.prog 8 #[.string s, .int .i64 (f : Int), .int .i64 (t : Int)] w fun e w' => e = .returned (.bool false) ∧ w' = w := by
  have i0 := fun wx => idx_run s f (f : Int) rfl (by omega) wx
  rw [← hc0.out] at i0
  have q1 : (t : Int) ≤ (s.size : Int) := by omega
  have q2 : (2 : Int) ≤ (t : Int) - (f : Int) := by omega
  go_enter Try.func8, Try.ntmps8
  go_wp2
  go_ret
  exact ⟨rfl, rfl⟩

set_option maxRecDepth 100000 in
set_option maxHeartbeats 3200000 in
theorem sp_ep (s : ByteArray) (f t : Nat) (c0 c1 : Int) (w : World) (hs : s.size ≤ 1048576) (ht : t ≤ s.size) (hft : f + 2 ≤ t) (hc0 : Hid (c0 = bt s f)) (hc1 : Hid (c1 = bt s (f + 1))) (h1 : (c0 != 101) = false) (h3 : (c1 == 43) = true) :
    Calls Try.prog 8 #[.string s, .int .i64 (f : Int), .int .i64 (t : Int)] w (SpPost s (f + 2) t w) := by
  have i0 := fun wx => idx_run s f (f : Int) rfl (by omega) wx
  rw [← hc0.out] at i0
  have i1 := fun wx => idx_run s (f + 1) ((f : Int) + 1) (by omega) (by omega) wx
  rw [← hc1.out] at i1
  have q1 : (t : Int) ≤ (s.size : Int) := by omega
  have q2 : (2 : Int) ≤ (t : Int) - (f : Int) := by omega
  by_cases hkt : f + 2 = t
  · have hkt' : (t : Int) ≤ (f : Int) + 2 := by omega
    have HK : Hid (f + 2 = t) := hkt
    clear hkt
    go_enter Try.func8, Try.ntmps8
    go_wp2
    go_ret
    exact ⟨⟨false, rfl, by simp; intro h; have := HK.out; omega⟩, rfl⟩
  have hlt : f + 2 < t := by omega
  have hlt' : ((f + 2 : Nat) : Int) < (t : Int) := by omega
  go_enter Try.func8, Try.ntmps8
  go_wp2
  go_loop [8] (fun i => ∃ m : Nat, m ≤ t ∧ i = .int .i64 (m : Int) ∧ Hid (f + 2 ≤ m ∧ ∀ j, f + 2 ≤ j → j < m → Dig s j)) (fun i => t - (intOf i).toNat)
  case atStart => exact ⟨f + 2, by omega, by go_num, Nat.le_refl _, fun j h1 h2 => by omega⟩
  case round =>
    obtain ⟨m, hm, rfl, hall⟩ := hrel
    by_cases hmt : m < t
    · obtain ⟨c, hce⟩ : ∃ c, c = bt s m := ⟨_, rfl⟩
      have i2 := fun wx => idx_run s m (m : Int) rfl (by omega) wx
      rw [← hce] at i2
      have HC : Hid (c = bt s m) := hce
      clear hce
      by_cases g1 : c < 48
      · go_wp2
        go_ret
        refine ⟨⟨false, rfl, ?_⟩, rfl⟩
        simp only [Bool.false_eq_true, false_iff]
        intro hh
        have := (hh.2 m hall.out.1 hmt).1
        rw [← HC.out] at this
        omega
      · by_cases g2 : 57 < c
        · go_wp2
          go_ret
          refine ⟨⟨false, rfl, ?_⟩, rfl⟩
          simp only [Bool.false_eq_true, false_iff]
          intro hh
          have := (hh.2 m hall.out.1 hmt).2
          rw [← HC.out] at this
          omega
        · go_wp2
          go_round
          case rel =>
            refine ⟨m + 1, by omega, by go_num, by have := hall.out.1; omega, fun j h1 h2 => ?_⟩
            by_cases hj : j < m
            · exact hall.out.2 j h1 hj
            · obtain rfl : j = m := by omega
              unfold Dig
              rw [← HC.out]
              omega
          case measure => simp [intOf]; omega
    · go_wp2
      go_ret
      refine ⟨⟨true, rfl, ?_⟩, rfl⟩
      simp only [true_iff]
      exact ⟨hlt, fun j h1 h2 => hall.out.2 j h1 (by omega)⟩

set_option maxRecDepth 100000 in
set_option maxHeartbeats 3200000 in
theorem sp_em (s : ByteArray) (f t : Nat) (c0 c1 : Int) (w : World) (hs : s.size ≤ 1048576) (ht : t ≤ s.size) (hft : f + 2 ≤ t) (hc0 : Hid (c0 = bt s f)) (hc1 : Hid (c1 = bt s (f + 1))) (h1 : (c0 != 101) = false) (h3 : (c1 == 43) = false) (h4 : (c1 == 45) = true) :
    Calls Try.prog 8 #[.string s, .int .i64 (f : Int), .int .i64 (t : Int)] w (SpPost s (f + 2) t w) := by
  have i0 := fun wx => idx_run s f (f : Int) rfl (by omega) wx
  rw [← hc0.out] at i0
  have i1 := fun wx => idx_run s (f + 1) ((f : Int) + 1) (by omega) (by omega) wx
  rw [← hc1.out] at i1
  have q1 : (t : Int) ≤ (s.size : Int) := by omega
  have q2 : (2 : Int) ≤ (t : Int) - (f : Int) := by omega
  by_cases hkt : f + 2 = t
  · have hkt' : (t : Int) ≤ (f : Int) + 2 := by omega
    have HK : Hid (f + 2 = t) := hkt
    clear hkt
    go_enter Try.func8, Try.ntmps8
    go_wp2
    go_ret
    exact ⟨⟨false, rfl, by simp; intro h; have := HK.out; omega⟩, rfl⟩
  have hlt : f + 2 < t := by omega
  have hlt' : ((f + 2 : Nat) : Int) < (t : Int) := by omega
  go_enter Try.func8, Try.ntmps8
  go_wp2
  go_loop [8] (fun i => ∃ m : Nat, m ≤ t ∧ i = .int .i64 (m : Int) ∧ Hid (f + 2 ≤ m ∧ ∀ j, f + 2 ≤ j → j < m → Dig s j)) (fun i => t - (intOf i).toNat)
  case atStart => exact ⟨f + 2, by omega, by go_num, Nat.le_refl _, fun j h1 h2 => by omega⟩
  case round =>
    obtain ⟨m, hm, rfl, hall⟩ := hrel
    by_cases hmt : m < t
    · obtain ⟨c, hce⟩ : ∃ c, c = bt s m := ⟨_, rfl⟩
      have i2 := fun wx => idx_run s m (m : Int) rfl (by omega) wx
      rw [← hce] at i2
      have HC : Hid (c = bt s m) := hce
      clear hce
      by_cases g1 : c < 48
      · go_wp2
        go_ret
        refine ⟨⟨false, rfl, ?_⟩, rfl⟩
        simp only [Bool.false_eq_true, false_iff]
        intro hh
        have := (hh.2 m hall.out.1 hmt).1
        rw [← HC.out] at this
        omega
      · by_cases g2 : 57 < c
        · go_wp2
          go_ret
          refine ⟨⟨false, rfl, ?_⟩, rfl⟩
          simp only [Bool.false_eq_true, false_iff]
          intro hh
          have := (hh.2 m hall.out.1 hmt).2
          rw [← HC.out] at this
          omega
        · go_wp2
          go_round
          case rel =>
            refine ⟨m + 1, by omega, by go_num, by have := hall.out.1; omega, fun j h1 h2 => ?_⟩
            by_cases hj : j < m
            · exact hall.out.2 j h1 hj
            · obtain rfl : j = m := by omega
              unfold Dig
              rw [← HC.out]
              omega
          case measure => simp [intOf]; omega
    · go_wp2
      go_ret
      refine ⟨⟨true, rfl, ?_⟩, rfl⟩
      simp only [true_iff]
      exact ⟨hlt, fun j h1 h2 => hall.out.2 j h1 (by omega)⟩

set_option maxRecDepth 100000 in
set_option maxHeartbeats 3200000 in
theorem sp_ez (s : ByteArray) (f t : Nat) (c0 c1 : Int) (w : World) (hs : s.size ≤ 1048576) (ht : t ≤ s.size) (hft : f + 2 ≤ t) (hc0 : Hid (c0 = bt s f)) (hc1 : Hid (c1 = bt s (f + 1))) (h1 : (c0 != 101) = false) (h3 : (c1 == 43) = false) (h4 : (c1 == 45) = false) :
    Calls Try.prog 8 #[.string s, .int .i64 (f : Int), .int .i64 (t : Int)] w (SpPost s (f + 1) t w) := by
  have i0 := fun wx => idx_run s f (f : Int) rfl (by omega) wx
  rw [← hc0.out] at i0
  have i1 := fun wx => idx_run s (f + 1) ((f : Int) + 1) (by omega) (by omega) wx
  rw [← hc1.out] at i1
  have q1 : (t : Int) ≤ (s.size : Int) := by omega
  have q2 : (2 : Int) ≤ (t : Int) - (f : Int) := by omega
  have hlt : f + 1 < t := by omega
  have hlt' : ((f + 1 : Nat) : Int) < (t : Int) := by omega
  go_enter Try.func8, Try.ntmps8
  go_wp2
  go_loop [8] (fun i => ∃ m : Nat, m ≤ t ∧ i = .int .i64 (m : Int) ∧ Hid (f + 1 ≤ m ∧ ∀ j, f + 1 ≤ j → j < m → Dig s j)) (fun i => t - (intOf i).toNat)
  case atStart => exact ⟨f + 1, by omega, by go_num, Nat.le_refl _, fun j h1 h2 => by omega⟩
  case round =>
    obtain ⟨m, hm, rfl, hall⟩ := hrel
    by_cases hmt : m < t
    · obtain ⟨c, hce⟩ : ∃ c, c = bt s m := ⟨_, rfl⟩
      have i2 := fun wx => idx_run s m (m : Int) rfl (by omega) wx
      rw [← hce] at i2
      have HC : Hid (c = bt s m) := hce
      clear hce
      by_cases g1 : c < 48
      · go_wp2
        go_ret
        refine ⟨⟨false, rfl, ?_⟩, rfl⟩
        simp only [Bool.false_eq_true, false_iff]
        intro hh
        have := (hh.2 m hall.out.1 hmt).1
        rw [← HC.out] at this
        omega
      · by_cases g2 : 57 < c
        · go_wp2
          go_ret
          refine ⟨⟨false, rfl, ?_⟩, rfl⟩
          simp only [Bool.false_eq_true, false_iff]
          intro hh
          have := (hh.2 m hall.out.1 hmt).2
          rw [← HC.out] at this
          omega
        · go_wp2
          go_round
          case rel =>
            refine ⟨m + 1, by omega, by go_num, by have := hall.out.1; omega, fun j h1 h2 => ?_⟩
            by_cases hj : j < m
            · exact hall.out.2 j h1 hj
            · obtain rfl : j = m := by omega
              unfold Dig
              rw [← HC.out]
              omega
          case measure => simp [intOf]; omega
    · go_wp2
      go_ret
      refine ⟨⟨true, rfl, ?_⟩, rfl⟩
      simp only [true_iff]
      exact ⟨hlt, fun j h1 h2 => hall.out.2 j h1 (by omega)⟩

set_option maxRecDepth 100000 in
set_option maxHeartbeats 3200000 in
theorem sp_Ep (s : ByteArray) (f t : Nat) (c0 c1 : Int) (w : World) (hs : s.size ≤ 1048576) (ht : t ≤ s.size) (hft : f + 2 ≤ t) (hc0 : Hid (c0 = bt s f)) (hc1 : Hid (c1 = bt s (f + 1))) (h1 : (c0 != 101) = true) (h2 : (c0 != 69) = false) (h3 : (c1 == 43) = true) :
    Calls Try.prog 8 #[.string s, .int .i64 (f : Int), .int .i64 (t : Int)] w (SpPost s (f + 2) t w) := by
  have i0 := fun wx => idx_run s f (f : Int) rfl (by omega) wx
  rw [← hc0.out] at i0
  have i1 := fun wx => idx_run s (f + 1) ((f : Int) + 1) (by omega) (by omega) wx
  rw [← hc1.out] at i1
  have q1 : (t : Int) ≤ (s.size : Int) := by omega
  have q2 : (2 : Int) ≤ (t : Int) - (f : Int) := by omega
  by_cases hkt : f + 2 = t
  · have hkt' : (t : Int) ≤ (f : Int) + 2 := by omega
    have HK : Hid (f + 2 = t) := hkt
    clear hkt
    go_enter Try.func8, Try.ntmps8
    go_wp2
    go_ret
    exact ⟨⟨false, rfl, by simp; intro h; have := HK.out; omega⟩, rfl⟩
  have hlt : f + 2 < t := by omega
  have hlt' : ((f + 2 : Nat) : Int) < (t : Int) := by omega
  go_enter Try.func8, Try.ntmps8
  go_wp2
  go_loop [8] (fun i => ∃ m : Nat, m ≤ t ∧ i = .int .i64 (m : Int) ∧ Hid (f + 2 ≤ m ∧ ∀ j, f + 2 ≤ j → j < m → Dig s j)) (fun i => t - (intOf i).toNat)
  case atStart => exact ⟨f + 2, by omega, by go_num, Nat.le_refl _, fun j h1 h2 => by omega⟩
  case round =>
    obtain ⟨m, hm, rfl, hall⟩ := hrel
    by_cases hmt : m < t
    · obtain ⟨c, hce⟩ : ∃ c, c = bt s m := ⟨_, rfl⟩
      have i2 := fun wx => idx_run s m (m : Int) rfl (by omega) wx
      rw [← hce] at i2
      have HC : Hid (c = bt s m) := hce
      clear hce
      by_cases g1 : c < 48
      · go_wp2
        go_ret
        refine ⟨⟨false, rfl, ?_⟩, rfl⟩
        simp only [Bool.false_eq_true, false_iff]
        intro hh
        have := (hh.2 m hall.out.1 hmt).1
        rw [← HC.out] at this
        omega
      · by_cases g2 : 57 < c
        · go_wp2
          go_ret
          refine ⟨⟨false, rfl, ?_⟩, rfl⟩
          simp only [Bool.false_eq_true, false_iff]
          intro hh
          have := (hh.2 m hall.out.1 hmt).2
          rw [← HC.out] at this
          omega
        · go_wp2
          go_round
          case rel =>
            refine ⟨m + 1, by omega, by go_num, by have := hall.out.1; omega, fun j h1 h2 => ?_⟩
            by_cases hj : j < m
            · exact hall.out.2 j h1 hj
            · obtain rfl : j = m := by omega
              unfold Dig
              rw [← HC.out]
              omega
          case measure => simp [intOf]; omega
    · go_wp2
      go_ret
      refine ⟨⟨true, rfl, ?_⟩, rfl⟩
      simp only [true_iff]
      exact ⟨hlt, fun j h1 h2 => hall.out.2 j h1 (by omega)⟩

set_option maxRecDepth 100000 in
set_option maxHeartbeats 3200000 in
theorem sp_Em (s : ByteArray) (f t : Nat) (c0 c1 : Int) (w : World) (hs : s.size ≤ 1048576) (ht : t ≤ s.size) (hft : f + 2 ≤ t) (hc0 : Hid (c0 = bt s f)) (hc1 : Hid (c1 = bt s (f + 1))) (h1 : (c0 != 101) = true) (h2 : (c0 != 69) = false) (h3 : (c1 == 43) = false) (h4 : (c1 == 45) = true) :
    Calls Try.prog 8 #[.string s, .int .i64 (f : Int), .int .i64 (t : Int)] w (SpPost s (f + 2) t w) := by
  have i0 := fun wx => idx_run s f (f : Int) rfl (by omega) wx
  rw [← hc0.out] at i0
  have i1 := fun wx => idx_run s (f + 1) ((f : Int) + 1) (by omega) (by omega) wx
  rw [← hc1.out] at i1
  have q1 : (t : Int) ≤ (s.size : Int) := by omega
  have q2 : (2 : Int) ≤ (t : Int) - (f : Int) := by omega
  by_cases hkt : f + 2 = t
  · have hkt' : (t : Int) ≤ (f : Int) + 2 := by omega
    have HK : Hid (f + 2 = t) := hkt
    clear hkt
    go_enter Try.func8, Try.ntmps8
    go_wp2
    go_ret
    exact ⟨⟨false, rfl, by simp; intro h; have := HK.out; omega⟩, rfl⟩
  have hlt : f + 2 < t := by omega
  have hlt' : ((f + 2 : Nat) : Int) < (t : Int) := by omega
  go_enter Try.func8, Try.ntmps8
  go_wp2
  go_loop [8] (fun i => ∃ m : Nat, m ≤ t ∧ i = .int .i64 (m : Int) ∧ Hid (f + 2 ≤ m ∧ ∀ j, f + 2 ≤ j → j < m → Dig s j)) (fun i => t - (intOf i).toNat)
  case atStart => exact ⟨f + 2, by omega, by go_num, Nat.le_refl _, fun j h1 h2 => by omega⟩
  case round =>
    obtain ⟨m, hm, rfl, hall⟩ := hrel
    by_cases hmt : m < t
    · obtain ⟨c, hce⟩ : ∃ c, c = bt s m := ⟨_, rfl⟩
      have i2 := fun wx => idx_run s m (m : Int) rfl (by omega) wx
      rw [← hce] at i2
      have HC : Hid (c = bt s m) := hce
      clear hce
      by_cases g1 : c < 48
      · go_wp2
        go_ret
        refine ⟨⟨false, rfl, ?_⟩, rfl⟩
        simp only [Bool.false_eq_true, false_iff]
        intro hh
        have := (hh.2 m hall.out.1 hmt).1
        rw [← HC.out] at this
        omega
      · by_cases g2 : 57 < c
        · go_wp2
          go_ret
          refine ⟨⟨false, rfl, ?_⟩, rfl⟩
          simp only [Bool.false_eq_true, false_iff]
          intro hh
          have := (hh.2 m hall.out.1 hmt).2
          rw [← HC.out] at this
          omega
        · go_wp2
          go_round
          case rel =>
            refine ⟨m + 1, by omega, by go_num, by have := hall.out.1; omega, fun j h1 h2 => ?_⟩
            by_cases hj : j < m
            · exact hall.out.2 j h1 hj
            · obtain rfl : j = m := by omega
              unfold Dig
              rw [← HC.out]
              omega
          case measure => simp [intOf]; omega
    · go_wp2
      go_ret
      refine ⟨⟨true, rfl, ?_⟩, rfl⟩
      simp only [true_iff]
      exact ⟨hlt, fun j h1 h2 => hall.out.2 j h1 (by omega)⟩

set_option maxRecDepth 100000 in
set_option maxHeartbeats 3200000 in
theorem sp_Ez (s : ByteArray) (f t : Nat) (c0 c1 : Int) (w : World) (hs : s.size ≤ 1048576) (ht : t ≤ s.size) (hft : f + 2 ≤ t) (hc0 : Hid (c0 = bt s f)) (hc1 : Hid (c1 = bt s (f + 1))) (h1 : (c0 != 101) = true) (h2 : (c0 != 69) = false) (h3 : (c1 == 43) = false) (h4 : (c1 == 45) = false) :
    Calls Try.prog 8 #[.string s, .int .i64 (f : Int), .int .i64 (t : Int)] w (SpPost s (f + 1) t w) := by
  have i0 := fun wx => idx_run s f (f : Int) rfl (by omega) wx
  rw [← hc0.out] at i0
  have i1 := fun wx => idx_run s (f + 1) ((f : Int) + 1) (by omega) (by omega) wx
  rw [← hc1.out] at i1
  have q1 : (t : Int) ≤ (s.size : Int) := by omega
  have q2 : (2 : Int) ≤ (t : Int) - (f : Int) := by omega
  have hlt : f + 1 < t := by omega
  have hlt' : ((f + 1 : Nat) : Int) < (t : Int) := by omega
  go_enter Try.func8, Try.ntmps8
  go_wp2
  go_loop [8] (fun i => ∃ m : Nat, m ≤ t ∧ i = .int .i64 (m : Int) ∧ Hid (f + 1 ≤ m ∧ ∀ j, f + 1 ≤ j → j < m → Dig s j)) (fun i => t - (intOf i).toNat)
  case atStart => exact ⟨f + 1, by omega, by go_num, Nat.le_refl _, fun j h1 h2 => by omega⟩
  case round =>
    obtain ⟨m, hm, rfl, hall⟩ := hrel
    by_cases hmt : m < t
    · obtain ⟨c, hce⟩ : ∃ c, c = bt s m := ⟨_, rfl⟩
      have i2 := fun wx => idx_run s m (m : Int) rfl (by omega) wx
      rw [← hce] at i2
      have HC : Hid (c = bt s m) := hce
      clear hce
      by_cases g1 : c < 48
      · go_wp2
        go_ret
        refine ⟨⟨false, rfl, ?_⟩, rfl⟩
        simp only [Bool.false_eq_true, false_iff]
        intro hh
        have := (hh.2 m hall.out.1 hmt).1
        rw [← HC.out] at this
        omega
      · by_cases g2 : 57 < c
        · go_wp2
          go_ret
          refine ⟨⟨false, rfl, ?_⟩, rfl⟩
          simp only [Bool.false_eq_true, false_iff]
          intro hh
          have := (hh.2 m hall.out.1 hmt).2
          rw [← HC.out] at this
          omega
        · go_wp2
          go_round
          case rel =>
            refine ⟨m + 1, by omega, by go_num, by have := hall.out.1; omega, fun j h1 h2 => ?_⟩
            by_cases hj : j < m
            · exact hall.out.2 j h1 hj
            · obtain rfl : j = m := by omega
              unfold Dig
              rw [← HC.out]
              omega
          case measure => simp [intOf]; omega
    · go_wp2
      go_ret
      refine ⟨⟨true, rfl, ?_⟩, rfl⟩
      simp only [true_iff]
      exact ⟨hlt, fun j h1 h2 => hall.out.2 j h1 (by omega)⟩

/-! ### THE TWO BY THEIR CONTRACTS -/
/-- where the digits of an exponent at i would begin. -/
def St (s : ByteArray) (i k : Nat) : Prop := (i + 1 < s.size ∧ Sgn s (i + 1) ∧ k = i + 2) ∨ (¬ (i + 1 < s.size ∧ Sgn s (i + 1)) ∧ k = i + 1)
theorem st_unique {s : ByteArray} {i k k' : Nat} (h : St s i k) (h' : St s i k') : k = k' := by
  rcases h with ⟨a, b, rfl⟩ | ⟨a, rfl⟩ <;> rcases h' with ⟨a', b', rfl⟩ | ⟨a', rfl⟩
  · rfl
  · exact absurd ⟨a, b⟩ a'
  · exact absurd ⟨a', b'⟩ a
  · rfl
/-- src[f:t] is an exponent. -/
def Span (s : ByteArray) (f t : Nat) : Prop := t ≤ s.size ∧ f + 2 ≤ t ∧ Ee s f ∧ ∃ k, St s f k ∧ k < t ∧ ∀ m, k ≤ m → m < t → Dig s m

theorem sp_any (s : ByteArray) (f t : Nat) (w : World) (hs : s.size ≤ 1048576) (hf : f ≤ s.size) (hft : f + 2 ≤ t) :
    Calls Try.prog 8 #[.string s, .int .i64 (f : Int), .int .i64 (t : Int)] w fun e w' => (∃ r : Bool, e = .returned (.bool r) ∧ (r = true ↔ Span s f t)) ∧ w' = w := by
  by_cases ht : t ≤ s.size
  · by_cases hE : Ee s f
    · have key : ∀ k, St s f k → ∀ r : Bool, (r = true ↔ k < t ∧ ∀ m, k ≤ m → m < t → Dig s m) → (r = true ↔ Span s f t) := by
        intro k hk r hr
        rw [hr]
        constructor
        · intro h
          exact ⟨ht, hft, hE, k, hk, h.1, h.2⟩
        · rintro ⟨_, _, _, k', hk', h1, h2⟩
          rw [st_unique hk hk']
          exact ⟨h1, h2⟩
      have fin : ∀ (k : Nat) (_ : St s f k) (e : Ending) (w' : World), ((∃ r : Bool, e = .returned (.bool r) ∧ (r = true ↔ k < t ∧ ∀ m, k ≤ m → m < t → Dig s m)) ∧ w' = w) → ((∃ r : Bool, e = .returned (.bool r) ∧ (r = true ↔ Span s f t)) ∧ w' = w) := by
        rintro k hk e w' ⟨⟨r, he, hr⟩, hw⟩
        exact ⟨⟨r, he, key k hk r hr⟩, hw⟩
      by_cases g3 : bt s (f + 1) = 43
      · have hst : St s f (f + 2) := .inl ⟨by omega, .inl g3, rfl⟩
        by_cases g1 : bt s f = 101
        · exact (sp_ep s f t _ _ w hs ht hft rfl rfl (by simpa using g1) (by simpa using g3)).mono (fin _ hst)
        · exact (sp_Ep s f t _ _ w hs ht hft rfl rfl (by simpa using g1) (by rcases hE with h | h; exact absurd h g1; simpa using h) (by simpa using g3)).mono (fin _ hst)
      · by_cases g4 : bt s (f + 1) = 45
        · have hst : St s f (f + 2) := .inl ⟨by omega, .inr g4, rfl⟩
          by_cases g1 : bt s f = 101
          · exact (sp_em s f t _ _ w hs ht hft rfl rfl (by simpa using g1) (by simpa using g3) (by simpa using g4)).mono (fin _ hst)
          · exact (sp_Em s f t _ _ w hs ht hft rfl rfl (by simpa using g1) (by rcases hE with h | h; exact absurd h g1; simpa using h) (by simpa using g3) (by simpa using g4)).mono (fin _ hst)
        · have hst : St s f (f + 1) := .inr ⟨fun h => by rcases h.2 with h | h; exact g3 h; exact g4 h, rfl⟩
          by_cases g1 : bt s f = 101
          · exact (sp_ez s f t _ _ w hs ht hft rfl rfl (by simpa using g1) (by simpa using g3) (by simpa using g4)).mono (fin _ hst)
          · exact (sp_Ez s f t _ _ w hs ht hft rfl rfl (by simpa using g1) (by rcases hE with h | h; exact absurd h g1; simpa using h) (by simpa using g3) (by simpa using g4)).mono (fin _ hst)
    · have g1 : ¬ bt s f = 101 := fun h => hE (.inl h)
      have g2 : ¬ bt s f = 69 := fun h => hE (.inr h)
      refine (sp_none s f t _ w hs ht hft rfl (by simpa using g1) (by simpa using g2)).mono fun e w' ⟨he, hw⟩ => ⟨⟨false, he, ?_⟩, hw⟩
      simp only [Bool.false_eq_true, false_iff]
      exact fun h => hE h.2.2.1
  · refine (sp_past s f t w hs (by omega) (by omega)).mono fun e w' ⟨he, hw⟩ => ⟨⟨false, he, ?_⟩, hw⟩
    simp only [Bool.false_eq_true, false_iff]
    exact fun h => ht h.1
theorem sp_yes (s : ByteArray) (f t : Nat) (w : World) (hs : s.size ≤ 1048576) (hf : f ≤ s.size) (h : Span s f t) :
    Calls Try.prog 8 #[.string s, .int .i64 (f : Int), .int .i64 (t : Int)] w fun e w' => e = .returned (.bool true) ∧ w' = w := by
  refine (sp_any s f t w hs hf h.2.1).mono ?_
  rintro e w' ⟨⟨r, he, hr⟩, hw⟩
  exact ⟨by rw [he, hr.2 h], hw⟩
theorem sp_no (s : ByteArray) (f t : Nat) (w : World) (hs : s.size ≤ 1048576) (hf : f ≤ s.size) (hft : f + 2 ≤ t) (h : ¬ Span s f t) :
    Calls Try.prog 8 #[.string s, .int .i64 (f : Int), .int .i64 (t : Int)] w fun e w' => e = .returned (.bool false) ∧ w' = w := by
  refine (sp_any s f t w hs hf hft).mono ?_
  rintro e w' ⟨⟨r, he, hr⟩, hw⟩
  refine ⟨?_, hw⟩
  cases r
  · exact he
  · exact absurd (hr.1 rfl) h

/-- WHAT exponentEnd ANSWERS. -/
def EEnd (s : ByteArray) (i r : Nat) : Prop :=
  (r = i ∧ (i = s.size ∨ ¬ Ee s i)) ∨ (i < s.size ∧ Ee s i ∧ ∃ k d, St s i k ∧ DEnd s k d ∧ ((r = d ∧ k < d) ∨ (r = i ∧ d = k)))

theorem ee_any (s : ByteArray) (lb i : Nat) (w : World) (hc : w.cell? ⟨lb, 0, none⟩ = some (.string s)) (hs : s.size ≤ 1048576) (hi : i ≤ s.size) :
    Calls Try.prog 17 #[.pointer (some ⟨lb, 0, none⟩), .int .i64 (i : Int)] w fun e w' => (∃ r : Nat, e = .returned (.int .i64 (r : Int)) ∧ EEnd s i r) ∧ w' = w := by
  by_cases h0 : i = s.size
  · subst h0
    refine (ee_end s lb w hc hs).mono ?_
    rintro e w' ⟨he, hw⟩
    exact ⟨⟨s.size, he, .inl ⟨rfl, .inl rfl⟩⟩, hw⟩
  have hi' : i < s.size := by omega
  by_cases hE : Ee s i
  · have fin : ∀ (k : Nat) (_ : St s i k) (e : Ending) (w' : World), ((∃ r d : Nat, e = .returned (.int .i64 (r : Int)) ∧ DEnd s k d ∧ ((r = d ∧ k < d) ∨ (r = i ∧ d = k))) ∧ w' = w) → ((∃ r : Nat, e = .returned (.int .i64 (r : Int)) ∧ EEnd s i r) ∧ w' = w) := by
      rintro k hk e w' ⟨⟨r, d, he, hd, hr⟩, hw⟩
      exact ⟨⟨r, he, .inr ⟨hi', hE, k, d, hk, hd, hr⟩⟩, hw⟩
    by_cases h1 : i + 1 < s.size
    · by_cases g3 : bt s (i + 1) = 43
      · have hst : St s i (i + 2) := .inl ⟨h1, .inl g3, rfl⟩
        by_cases g1 : bt s i = 101
        · exact (ee_ep s lb i _ _ w hc hs hi' rfl (by simpa using g1) h1 rfl (by simpa using g3)).mono (fin _ hst)
        · exact (ee_Ep s lb i _ _ w hc hs hi' rfl (by simpa using g1) (by rcases hE with h | h; exact absurd h g1; simpa using h) h1 rfl (by simpa using g3)).mono (fin _ hst)
      · by_cases g4 : bt s (i + 1) = 45
        · have hst : St s i (i + 2) := .inl ⟨h1, .inr g4, rfl⟩
          by_cases g1 : bt s i = 101
          · exact (ee_em s lb i _ _ w hc hs hi' rfl (by simpa using g1) h1 rfl (by simpa using g3) (by simpa using g4)).mono (fin _ hst)
          · exact (ee_Em s lb i _ _ w hc hs hi' rfl (by simpa using g1) (by rcases hE with h | h; exact absurd h g1; simpa using h) h1 rfl (by simpa using g3) (by simpa using g4)).mono (fin _ hst)
        · have hst : St s i (i + 1) := .inr ⟨fun h => by rcases h.2 with h | h; exact g3 h; exact g4 h, rfl⟩
          by_cases g1 : bt s i = 101
          · exact (ee_ez s lb i _ _ w hc hs hi' rfl (by simpa using g1) h1 rfl (by simpa using g3) (by simpa using g4)).mono (fin _ hst)
          · exact (ee_Ez s lb i _ _ w hc hs hi' rfl (by simpa using g1) (by rcases hE with h | h; exact absurd h g1; simpa using h) h1 rfl (by simpa using g3) (by simpa using g4)).mono (fin _ hst)
    · have hst : St s i (i + 1) := .inr ⟨fun h => h1 h.1, rfl⟩
      by_cases g1 : bt s i = 101
      · exact (ee_ex s lb i _ w hc hs hi' rfl (by simpa using g1) (by omega)).mono (fin _ hst)
      · exact (ee_Ex s lb i _ w hc hs hi' rfl (by simpa using g1) (by rcases hE with h | h; exact absurd h g1; simpa using h) (by omega)).mono (fin _ hst)
  · have g1 : ¬ bt s i = 101 := fun h => hE (.inl h)
    have g2 : ¬ bt s i = 69 := fun h => hE (.inr h)
    refine (ee_none s lb i _ w hc hs hi' rfl (by simpa using g1) (by simpa using g2)).mono ?_
    rintro e w' ⟨he, hw⟩
    exact ⟨⟨i, he, .inl ⟨rfl, .inr hE⟩⟩, hw⟩

/-! ### THE PLAIN LAW -/
theorem eend_le {s : ByteArray} {i r : Nat} (hi : i ≤ s.size) (h : EEnd s i r) : i ≤ r ∧ r ≤ s.size := by
  rcases h with ⟨rfl, _⟩ | ⟨h1, _, k, d, hk, hd, hr⟩
  · omega
  · have hki : i + 1 ≤ k := by rcases hk with ⟨_, _, rfl⟩ | ⟨_, rfl⟩ <;> omega
    have := hd.1
    have := hd.2.1
    omega
theorem eend_same {s : ByteArray} {i t : Nat} (h : EEnd s i i) (ht : t = i + 2 ∨ t = i + 3) : ¬ Span s i t := by
  rintro ⟨a, b, c, k, hk, hkt, hall⟩
  rcases h with ⟨_, h | h⟩ | ⟨_, _, k', d, hk', hd, hr⟩
  · omega
  · exact h c
  · have hki : i + 1 ≤ k' := by rcases hk' with ⟨_, _, rfl⟩ | ⟨_, rfl⟩ <;> omega
    obtain rfl := st_unique hk hk'
    have h1 := hd.1
    have hdk : d = k := by omega
    subst hdk
    rcases hd.2.2.2 with h | h
    · omega
    · exact h (hall d (Nat.le_refl _) hkt)
theorem eend_more {s : ByteArray} {i r : Nat} (hlt : i < r) (h : EEnd s i r) : Span s i r ∧ (r = s.size ∨ ¬ Span s i (r + 1)) := by
  rcases h with ⟨h, _⟩ | ⟨h1, hE, k, d, hk, hd, hr⟩
  · omega
  · have hki : i + 1 ≤ k := by rcases hk with ⟨_, _, rfl⟩ | ⟨_, rfl⟩ <;> omega
    have hrd : r = d ∧ k < d := by omega
    obtain ⟨rfl, hkr⟩ := hrd
    refine ⟨⟨hd.2.1, by omega, hE, k, hk, hkr, hd.2.2.1⟩, ?_⟩
    rcases hd.2.2.2 with h | h
    · exact .inl h
    · refine .inr ?_
      rintro ⟨_, _, _, k', hk', _, hall⟩
      obtain rfl := st_unique hk hk'
      exact h (hall r (by omega) (by omega))

/-! ### THE LAW -/
set_option maxRecDepth 100000 in
set_option maxHeartbeats 1600000 in
theorem exp_big (s : ByteArray) (p i : Int) (w : World) (hs : 1048576 < s.size) (hm : Hid (s.size ≤ maxLen)) :
    Calls Try.prog 3 #[.string s, .int .i64 p, .int .i64 i] w fun e w' => e = .returned (.bool true) ∧ Below w.heap.size w w' := by
  have h' : (1048576 : Int) < (s.size : Int) := by omega
  go_enter Try.func3, Try.ntmps3
  go_wp2
  go_ret
  exact ⟨rfl, Below.refl _ _⟩
set_option maxRecDepth 100000 in
set_option maxHeartbeats 1600000 in
theorem exp_neg (s : ByteArray) (p i : Int) (w : World) (hs : s.size ≤ 1048576) (hi : i < 0) :
    Calls Try.prog 3 #[.string s, .int .i64 p, .int .i64 i] w fun e w' => e = .returned (.bool true) ∧ Below w.heap.size w w' := by
  have h' : (s.size : Int) ≤ 1048576 := by omega
  go_enter Try.func3, Try.ntmps3
  go_wp2
  go_ret
  exact ⟨rfl, Below.refl _ _⟩
set_option maxRecDepth 100000 in
set_option maxHeartbeats 1600000 in
theorem exp_out (s : ByteArray) (p i : Int) (w : World) (hs : s.size ≤ 1048576) (h0 : 0 ≤ i) (hi : (s.size : Int) < i) :
    Calls Try.prog 3 #[.string s, .int .i64 p, .int .i64 i] w fun e w' => e = .returned (.bool true) ∧ Below w.heap.size w w' := by
  have h' : (s.size : Int) ≤ 1048576 := by omega
  go_enter Try.func3, Try.ntmps3
  go_wp2
  go_ret
  exact ⟨rfl, Below.refl _ _⟩

set_option maxRecDepth 100000 in
set_option maxHeartbeats 1600000 in
theorem exp_in (s : ByteArray) (p : Int) (i : Nat) (w : World) (hs : s.size ≤ 1048576) (hi : i ≤ s.size) :
    Calls Try.prog 3 #[.string s, .int .i64 p, .int .i64 (i : Int)] w fun e w' => e = .returned (.bool true) ∧ Below w.heap.size w w' := by
  have h' : (s.size : Int) ≤ 1048576 := by omega
  have hi' : (i : Int) ≤ (s.size : Int) := by omega
  go_enter Try.func3, Try.ntmps3
  go_wp2_with (first | (go_at_call 6; go_in) | (go_at_call 7; go_in))
  refine (ee_any s w.heap.size i _ (by go_simp) hs hi).mono ?_
  rintro e w1 ⟨⟨r, rfl, hr⟩, rfl⟩
  obtain ⟨hr1, hr2⟩ := eend_le hi hr
  have HR : Hid (EEnd s i r) := hr
  clear hr
  have hr1' : (i : Int) ≤ (r : Int) := by omega
  have hr2' : (r : Int) ≤ (s.size : Int) := by omega
  by_cases he : r = i
  · subst he
    go_wp2_with fail
    rw [show ((r : Int) + 2) = ((r + 2 : Nat) : Int) by omega]
    refine (sp_no s r (r + 2) _ hs hi (by omega) (eend_same HR.out (.inl rfl))).mono ?_
    rintro e w2 ⟨rfl, rfl⟩
    go_wp2_with fail
    rw [show ((r : Int) + 3) = ((r + 3 : Nat) : Int) by omega]
    refine (sp_no s r (r + 3) _ hs hi (by omega) (eend_same HR.out (.inr rfl))).mono ?_
    rintro e w3 ⟨rfl, rfl⟩
    go_wp2
    go_ret
    exact ⟨rfl, (Below.refl _ _).alloc (Nat.le_refl _) _⟩
  · have hlt : i < r := by omega
    have hlt' : (i : Int) < (r : Int) := by omega
    obtain ⟨y1, y2⟩ := eend_more hlt HR.out
    have Y1 : Hid (Span s i r) := y1
    have hb : i + 2 ≤ r := y1.2.1
    have hne : ((r : Int) == (i : Int)) = false := by simp; omega
    clear y1 he
    by_cases hz : r = s.size
    · have hz' : ((r : Int) == (s.size : Int)) = true := by simp; omega
      have HZ : Hid (r = s.size) := hz
      clear hz y2
      go_wp2_with fail
      refine (sp_yes s i r _ hs hi Y1.out).mono ?_
      rintro e w2 ⟨rfl, rfl⟩
      go_wp2
      go_ret
      exact ⟨rfl, (Below.refl _ _).alloc (Nat.le_refl _) _⟩
    · have hz' : ((r : Int) == (s.size : Int)) = false := by simp; omega
      have Y2 : Hid (¬ Span s i (r + 1)) := by rcases y2 with h | h; exact absurd h hz; exact h
      clear hz y2
      go_wp2_with fail
      refine (sp_yes s i r _ hs hi Y1.out).mono ?_
      rintro e w2 ⟨rfl, rfl⟩
      go_wp2_with fail
      rw [show ((r : Int) + 1) = ((r + 1 : Nat) : Int) by omega]
      refine (sp_no s i (r + 1) _ hs hi (by omega) Y2.out).mono ?_
      rintro e w3 ⟨rfl, rfl⟩
      go_wp2
      go_ret
      exact ⟨rfl, (Below.refl _ _).alloc (Nat.le_refl _) _⟩

/-- ████ THE LAW's WALK ████ -/
theorem exp_law (s : ByteArray) (p i : Int) (w : World) (hm : s.size ≤ maxLen) :
    Calls Try.prog 3 #[.string s, .int .i64 p, .int .i64 i] w fun e w' => e = .returned (.bool true) ∧ Below w.heap.size w w' := by
  by_cases hs : s.size ≤ 1048576
  · by_cases h0 : i < 0
    · exact exp_neg s p i w hs h0
    · by_cases h1 : (s.size : Int) < i
      · exact exp_out s p i w hs (by omega) h1
      · obtain ⟨k, rfl⟩ : ∃ k : Nat, i = (k : Int) := ⟨i.toNat, by omega⟩
        exact exp_in s p k w hs (by omega)
  · exact exp_big s p i w (by omega) hm
end Go.Proofs.Qxb6619202a
