import Derived.Test.Qxb6619177aFmtRead3
namespace Go.Proofs.Qxb6619177aFmt
open Go.RowKit Go.Extern.Stop Go.Stop Go.Extern
set_option linter.unusedVariables false
set_option linter.unusedSimpArgs false

set_option maxRecDepth 100000 in
set_option maxHeartbeats 3200000 in
theorem read_long_nm1 (F : Interp) (br b off n k v : Nat) (t c2 : Int) (xs : List Int) (w : World) (hF : F.answers w.tape) (h0 : 0 ≤ t) (h1 : t ≤ 255) (hr : w.cell? ⟨br, 0, none⟩ = some (.slice (some ⟨b, off, none⟩) n n))
    (hfr : w.frozen? ⟨br, 0, none⟩ = false) (hbx : Hid (∀ x ∈ xs, 0 ≤ x ∧ x ≤ 255))
    (hc0 : w.cell? ⟨b, off, none⟩ = some (.int .u8 t)) (hc1 : w.cell? ⟨b, off + 1, none⟩ = some (.int .u8 (128 + (k : Int)))) (hc2 : w.cell? ⟨b, off + 2, none⟩ = some (.int .u8 c2))
    (hcs : Hid (∀ j, j < k → w.cell? ⟨b, off + 2 + j, none⟩ = some (.int .u8 (xs.getD (j + 2) 0)))) (hk1 : 1 ≤ k) (hk4 : k ≤ 4) (hv : Hid (v = be xs k)) (hn : n ≤ 4194304) (hn2 : 2 + k ≤ n) (hbad : Hid (c2 = 0)) :
    Calls Tryf.prog 20 #[.pointer (some ⟨br, 0, none⟩), .int .u8 t] w (ReadErr w) := by
  have hand := and_127 k (by omega)
  have hn' : (1 : Int) < (n : Int) := by omega
  have hn0 : ((n : Int) == 0) = false := by simp; omega
  have hc9 : ¬ n = 2 := by omega
  have hnk : (2 : Int) + (k : Int) ≤ (n : Int) := by omega
  have hcd : (c2 == 0) = true := by simpa using hbad.out
  go_enter Tryf.func20, Tryf.ntmps20
  go_wp2_with fail
  refine (tag_any F t _ (by exact hF) h0 h1).mono ?_
  rintro e w1 ⟨⟨nm, rfl⟩, hb⟩
  have hr1 : w1.cell? ⟨br, 0, none⟩ = some (.slice (some ⟨b, off, none⟩) n n) := by rw [hb.cell (lt_of_cell hr), hr]
  have hd0 : w1.cell? ⟨b, off, none⟩ = some (.int .u8 t) := by rw [hb.cell (lt_of_cell hc0), hc0]
  have hd1 : w1.cell? ⟨b, off + 1, none⟩ = some (.int .u8 (128 + (k : Int))) := by rw [hb.cell (lt_of_cell hc1), hc1]
  have hd2 : w1.cell? ⟨b, off + 2, none⟩ = some (.int .u8 c2) := by rw [hb.cell (lt_of_cell hc2), hc2]
  have hds : Hid (∀ j, j < k → w1.cell? ⟨b, off + 2 + j, none⟩ = some (.int .u8 (xs.getD (j + 2) 0))) := by
    intro j hj
    rw [hb.cell (lt_of_cell (hcs.out j hj)), hcs.out j hj]
  have hfr1 : w1.frozen? ⟨br, 0, none⟩ = false := by rw [hb.frozen (lt_of_cell hr), hfr]
  have hF1 : F.answers w1.tape := by rw [hb.tape]; exact hF
  have HB := hide_below (hb.mono (show br ≤ w.heap.size by have := lt_of_cell hr; omega))
  clear hcs
  go_wp2
  go_loop [9, 12, 109] (fun len c i => ∃ j v' : Nat, j ≤ k ∧ i = .int .i64 j ∧ len = .int .u64 v' ∧ Hid (v' = be xs j)) (fun _ _ i => k - (intOf i).toNat)
  case atStart => exact ⟨0, 0, by omega, rfl, rfl, rfl⟩
  case round =>
    obtain ⟨j, v', hj, rfl, rfl, hv'⟩ := hrel
    by_cases hjk : j < k
    · obtain ⟨c, hce⟩ : ∃ c, c = xs.getD (j + 2) 0 := ⟨_, rfl⟩
      have hcj : w1.cell? ⟨b, off + 2 + j, none⟩ = some (.int .u8 c) := by rw [hds.out j hjk, hce]
      have HCE : Hid (c = xs.getD (j + 2) 0) := hce
      obtain ⟨hb1a, hb1b⟩ : 0 ≤ c ∧ c ≤ 255 := by rw [hce]; exact byte_at hbx.out _
      clear hce
      have HV : Hid (v' < 4294967296) := by have := be_lt hbx.out j (by omega); rw [← hv'.out] at this; exact this
      go_wp2
      go_round
      case rel => exact ⟨j + 1, v' * 256 + c.toNat, by omega, by go_num, by rw [step_be v' c HV.out hb1a hb1b], by show _ = _; rw [be, ← hv'.out, HCE.out]; rfl⟩
      case measure => simp [intOf]; omega
    · have hjk' : j = k := by omega
      have e1 : v' = v := by rw [hv'.out, hv.out, hjk']
      have hge : k ≤ j := by omega
      clear hjk hjk' hv'
      subst e1
      go_wp2_with (go_at_call 23; refine (errorf_s4 F nm _ _ (by exact hF1) (by go_simp)).mono ?_; rintro e w2 ⟨s, rfl, rfl⟩)
      go_ret3
      exact readErr_of hb
set_option maxRecDepth 100000 in
set_option maxHeartbeats 3200000 in
theorem read_long_nm2 (F : Interp) (br b off n k v : Nat) (t c2 : Int) (xs : List Int) (w : World) (hF : F.answers w.tape) (h0 : 0 ≤ t) (h1 : t ≤ 255) (hr : w.cell? ⟨br, 0, none⟩ = some (.slice (some ⟨b, off, none⟩) n n))
    (hfr : w.frozen? ⟨br, 0, none⟩ = false) (hbx : Hid (∀ x ∈ xs, 0 ≤ x ∧ x ≤ 255))
    (hc0 : w.cell? ⟨b, off, none⟩ = some (.int .u8 t)) (hc1 : w.cell? ⟨b, off + 1, none⟩ = some (.int .u8 (128 + (k : Int)))) (hc2 : w.cell? ⟨b, off + 2, none⟩ = some (.int .u8 c2))
    (hcs : Hid (∀ j, j < k → w.cell? ⟨b, off + 2 + j, none⟩ = some (.int .u8 (xs.getD (j + 2) 0)))) (hk1 : 1 ≤ k) (hk4 : k ≤ 4) (hv : Hid (v = be xs k)) (hn : n ≤ 4194304) (hn2 : 2 + k ≤ n) (hnz : (c2 == 0) = false) (hbad : v < 128) :
    Calls Tryf.prog 20 #[.pointer (some ⟨br, 0, none⟩), .int .u8 t] w (ReadErr w) := by
  have hand := and_127 k (by omega)
  have hn' : (1 : Int) < (n : Int) := by omega
  have hn0 : ((n : Int) == 0) = false := by simp; omega
  have hc9 : ¬ n = 2 := by omega
  have hnk : (2 : Int) + (k : Int) ≤ (n : Int) := by omega
  have hv8 : (v : Int) < 128 := by omega
  go_enter Tryf.func20, Tryf.ntmps20
  go_wp2_with fail
  refine (tag_any F t _ (by exact hF) h0 h1).mono ?_
  rintro e w1 ⟨⟨nm, rfl⟩, hb⟩
  have hr1 : w1.cell? ⟨br, 0, none⟩ = some (.slice (some ⟨b, off, none⟩) n n) := by rw [hb.cell (lt_of_cell hr), hr]
  have hd0 : w1.cell? ⟨b, off, none⟩ = some (.int .u8 t) := by rw [hb.cell (lt_of_cell hc0), hc0]
  have hd1 : w1.cell? ⟨b, off + 1, none⟩ = some (.int .u8 (128 + (k : Int))) := by rw [hb.cell (lt_of_cell hc1), hc1]
  have hd2 : w1.cell? ⟨b, off + 2, none⟩ = some (.int .u8 c2) := by rw [hb.cell (lt_of_cell hc2), hc2]
  have hds : Hid (∀ j, j < k → w1.cell? ⟨b, off + 2 + j, none⟩ = some (.int .u8 (xs.getD (j + 2) 0))) := by
    intro j hj
    rw [hb.cell (lt_of_cell (hcs.out j hj)), hcs.out j hj]
  have hfr1 : w1.frozen? ⟨br, 0, none⟩ = false := by rw [hb.frozen (lt_of_cell hr), hfr]
  have hF1 : F.answers w1.tape := by rw [hb.tape]; exact hF
  have HB := hide_below (hb.mono (show br ≤ w.heap.size by have := lt_of_cell hr; omega))
  clear hcs
  go_wp2
  go_loop [9, 12, 109] (fun len c i => ∃ j v' : Nat, j ≤ k ∧ i = .int .i64 j ∧ len = .int .u64 v' ∧ Hid (v' = be xs j)) (fun _ _ i => k - (intOf i).toNat)
  case atStart => exact ⟨0, 0, by omega, rfl, rfl, rfl⟩
  case round =>
    obtain ⟨j, v', hj, rfl, rfl, hv'⟩ := hrel
    by_cases hjk : j < k
    · obtain ⟨c, hce⟩ : ∃ c, c = xs.getD (j + 2) 0 := ⟨_, rfl⟩
      have hcj : w1.cell? ⟨b, off + 2 + j, none⟩ = some (.int .u8 c) := by rw [hds.out j hjk, hce]
      have HCE : Hid (c = xs.getD (j + 2) 0) := hce
      obtain ⟨hb1a, hb1b⟩ : 0 ≤ c ∧ c ≤ 255 := by rw [hce]; exact byte_at hbx.out _
      clear hce
      have HV : Hid (v' < 4294967296) := by have := be_lt hbx.out j (by omega); rw [← hv'.out] at this; exact this
      go_wp2
      go_round
      case rel => exact ⟨j + 1, v' * 256 + c.toNat, by omega, by go_num, by rw [step_be v' c HV.out hb1a hb1b], by show _ = _; rw [be, ← hv'.out, HCE.out]; rfl⟩
      case measure => simp [intOf]; omega
    · have hjk' : j = k := by omega
      have e1 : v' = v := by rw [hv'.out, hv.out, hjk']
      have hge : k ≤ j := by omega
      clear hjk hjk' hv'
      subst e1
      go_wp2_with (go_at_call 23; refine (errorf_s4 F nm _ _ (by exact hF1) (by go_simp)).mono ?_; rintro e w2 ⟨s, rfl, rfl⟩)
      go_ret3
      exact readErr_of hb
set_option maxRecDepth 100000 in
set_option maxHeartbeats 3200000 in
theorem read_long_past (F : Interp) (br b off n k v : Nat) (t c2 : Int) (xs : List Int) (w : World) (hF : F.answers w.tape) (h0 : 0 ≤ t) (h1 : t ≤ 255) (hr : w.cell? ⟨br, 0, none⟩ = some (.slice (some ⟨b, off, none⟩) n n))
    (hfr : w.frozen? ⟨br, 0, none⟩ = false) (hbx : Hid (∀ x ∈ xs, 0 ≤ x ∧ x ≤ 255))
    (hc0 : w.cell? ⟨b, off, none⟩ = some (.int .u8 t)) (hc1 : w.cell? ⟨b, off + 1, none⟩ = some (.int .u8 (128 + (k : Int)))) (hc2 : w.cell? ⟨b, off + 2, none⟩ = some (.int .u8 c2))
    (hcs : Hid (∀ j, j < k → w.cell? ⟨b, off + 2 + j, none⟩ = some (.int .u8 (xs.getD (j + 2) 0)))) (hk1 : 1 ≤ k) (hk4 : k ≤ 4) (hv : Hid (v = be xs k)) (hn : n ≤ 4194304) (hn2 : 2 + k ≤ n) (hnz : (c2 == 0) = false) (hbad : 128 ≤ v) (hp : n < 2 + k + v) :
    Calls Tryf.prog 20 #[.pointer (some ⟨br, 0, none⟩), .int .u8 t] w (ReadErr w) := by
  have hand := and_127 k (by omega)
  have hn' : (1 : Int) < (n : Int) := by omega
  have hn0 : ((n : Int) == 0) = false := by simp; omega
  have hc9 : ¬ n = 2 := by omega
  have hnk : (2 : Int) + (k : Int) ≤ (n : Int) := by omega
  have hv8 : (128 : Int) ≤ (v : Int) := by omega
  have hpp : (n : Int) - (2 + (k : Int)) < (v : Int) := by omega
  have hpq : (0 : Int) ≤ (n : Int) - (2 + (k : Int)) := by omega
  go_enter Tryf.func20, Tryf.ntmps20
  go_wp2_with fail
  refine (tag_any F t _ (by exact hF) h0 h1).mono ?_
  rintro e w1 ⟨⟨nm, rfl⟩, hb⟩
  have hr1 : w1.cell? ⟨br, 0, none⟩ = some (.slice (some ⟨b, off, none⟩) n n) := by rw [hb.cell (lt_of_cell hr), hr]
  have hd0 : w1.cell? ⟨b, off, none⟩ = some (.int .u8 t) := by rw [hb.cell (lt_of_cell hc0), hc0]
  have hd1 : w1.cell? ⟨b, off + 1, none⟩ = some (.int .u8 (128 + (k : Int))) := by rw [hb.cell (lt_of_cell hc1), hc1]
  have hd2 : w1.cell? ⟨b, off + 2, none⟩ = some (.int .u8 c2) := by rw [hb.cell (lt_of_cell hc2), hc2]
  have hds : Hid (∀ j, j < k → w1.cell? ⟨b, off + 2 + j, none⟩ = some (.int .u8 (xs.getD (j + 2) 0))) := by
    intro j hj
    rw [hb.cell (lt_of_cell (hcs.out j hj)), hcs.out j hj]
  have hfr1 : w1.frozen? ⟨br, 0, none⟩ = false := by rw [hb.frozen (lt_of_cell hr), hfr]
  have hF1 : F.answers w1.tape := by rw [hb.tape]; exact hF
  have HB := hide_below (hb.mono (show br ≤ w.heap.size by have := lt_of_cell hr; omega))
  clear hcs
  go_wp2
  go_loop [9, 12, 109] (fun len c i => ∃ j v' : Nat, j ≤ k ∧ i = .int .i64 j ∧ len = .int .u64 v' ∧ Hid (v' = be xs j)) (fun _ _ i => k - (intOf i).toNat)
  case atStart => exact ⟨0, 0, by omega, rfl, rfl, rfl⟩
  case round =>
    obtain ⟨j, v', hj, rfl, rfl, hv'⟩ := hrel
    by_cases hjk : j < k
    · obtain ⟨c, hce⟩ : ∃ c, c = xs.getD (j + 2) 0 := ⟨_, rfl⟩
      have hcj : w1.cell? ⟨b, off + 2 + j, none⟩ = some (.int .u8 c) := by rw [hds.out j hjk, hce]
      have HCE : Hid (c = xs.getD (j + 2) 0) := hce
      obtain ⟨hb1a, hb1b⟩ : 0 ≤ c ∧ c ≤ 255 := by rw [hce]; exact byte_at hbx.out _
      clear hce
      have HV : Hid (v' < 4294967296) := by have := be_lt hbx.out j (by omega); rw [← hv'.out] at this; exact this
      go_wp2
      go_round
      case rel => exact ⟨j + 1, v' * 256 + c.toNat, by omega, by go_num, by rw [step_be v' c HV.out hb1a hb1b], by show _ = _; rw [be, ← hv'.out, HCE.out]; rfl⟩
      case measure => simp [intOf]; omega
    · have hjk' : j = k := by omega
      have e1 : v' = v := by rw [hv'.out, hv.out, hjk']
      have hge : k ≤ j := by omega
      clear hjk hjk' hv'
      subst e1
      go_wp2_with (go_at_call 23; refine (errorf_sdd F nm (v' : Int) ((n : Int) - (2 + (k : Int))) _ _ (by exact hF1) (by go_simp) (by go_simp) (by go_simp)).mono ?_; rintro e w2 ⟨s, rfl, rfl⟩)
      go_ret3
      exact readErr_of hb
set_option maxRecDepth 100000 in
set_option maxHeartbeats 3200000 in
theorem read_long_a (F : Interp) (br b off n k v : Nat) (t c2 : Int) (xs : List Int) (w : World) (hF : F.answers w.tape) (h0 : 0 ≤ t) (h1 : t ≤ 255) (hr : w.cell? ⟨br, 0, none⟩ = some (.slice (some ⟨b, off, none⟩) n n))
    (hfr : w.frozen? ⟨br, 0, none⟩ = false) (hbx : Hid (∀ x ∈ xs, 0 ≤ x ∧ x ≤ 255))
    (hc0 : w.cell? ⟨b, off, none⟩ = some (.int .u8 t)) (hc1 : w.cell? ⟨b, off + 1, none⟩ = some (.int .u8 (128 + (k : Int)))) (hc2 : w.cell? ⟨b, off + 2, none⟩ = some (.int .u8 c2))
    (hcs : Hid (∀ j, j < k → w.cell? ⟨b, off + 2 + j, none⟩ = some (.int .u8 (xs.getD (j + 2) 0)))) (hk1 : 1 ≤ k) (hk4 : k ≤ 4) (hv : Hid (v = be xs k)) (hn : n ≤ 4194304) (hnz : (c2 == 0) = false) (hbad : 128 ≤ v) (hp : 2 + k + v < n) :
    Calls Tryf.prog 20 #[.pointer (some ⟨br, 0, none⟩), .int .u8 t] w (ReadOk br b off n n (2 + k) v w) := by
  have hand := and_127 k (by omega)
  have hn' : (1 : Int) < (n : Int) := by omega
  have hn0 : ((n : Int) == 0) = false := by simp; omega
  have hc9 : ¬ n = 2 := by omega
  have hnk : (2 : Int) + (k : Int) ≤ (n : Int) := by omega
  have hv8 : (128 : Int) ≤ (v : Int) := by omega
  have hpp : (v : Int) ≤ (n : Int) - (2 + (k : Int)) := by omega
  have hpq : (0 : Int) ≤ (n : Int) - (2 + (k : Int)) := by omega
  have hcA : ¬ n = 0 := by omega
  have hcB : ¬ n = 2 + k := by omega
  have hcC : ¬ n = 2 + k + v := by omega
  go_enter Tryf.func20, Tryf.ntmps20
  go_wp2_with fail
  refine (tag_any F t _ (by exact hF) h0 h1).mono ?_
  rintro e w1 ⟨⟨nm, rfl⟩, hb⟩
  have hr1 : w1.cell? ⟨br, 0, none⟩ = some (.slice (some ⟨b, off, none⟩) n n) := by rw [hb.cell (lt_of_cell hr), hr]
  have hd0 : w1.cell? ⟨b, off, none⟩ = some (.int .u8 t) := by rw [hb.cell (lt_of_cell hc0), hc0]
  have hd1 : w1.cell? ⟨b, off + 1, none⟩ = some (.int .u8 (128 + (k : Int))) := by rw [hb.cell (lt_of_cell hc1), hc1]
  have hd2 : w1.cell? ⟨b, off + 2, none⟩ = some (.int .u8 c2) := by rw [hb.cell (lt_of_cell hc2), hc2]
  have hds : Hid (∀ j, j < k → w1.cell? ⟨b, off + 2 + j, none⟩ = some (.int .u8 (xs.getD (j + 2) 0))) := by
    intro j hj
    rw [hb.cell (lt_of_cell (hcs.out j hj)), hcs.out j hj]
  have hfr1 : w1.frozen? ⟨br, 0, none⟩ = false := by rw [hb.frozen (lt_of_cell hr), hfr]
  have hF1 : F.answers w1.tape := by rw [hb.tape]; exact hF
  have HB := hide_below (hb.mono (show br ≤ w.heap.size by have := lt_of_cell hr; omega))
  clear hcs
  go_wp2
  go_loop [9, 12, 109] (fun len c i => ∃ j v' : Nat, j ≤ k ∧ i = .int .i64 j ∧ len = .int .u64 v' ∧ Hid (v' = be xs j)) (fun _ _ i => k - (intOf i).toNat)
  case atStart => exact ⟨0, 0, by omega, rfl, rfl, rfl⟩
  case round =>
    obtain ⟨j, v', hj, rfl, rfl, hv'⟩ := hrel
    by_cases hjk : j < k
    · obtain ⟨c, hce⟩ : ∃ c, c = xs.getD (j + 2) 0 := ⟨_, rfl⟩
      have hcj : w1.cell? ⟨b, off + 2 + j, none⟩ = some (.int .u8 c) := by rw [hds.out j hjk, hce]
      have HCE : Hid (c = xs.getD (j + 2) 0) := hce
      obtain ⟨hb1a, hb1b⟩ : 0 ≤ c ∧ c ≤ 255 := by rw [hce]; exact byte_at hbx.out _
      clear hce
      have HV : Hid (v' < 4294967296) := by have := be_lt hbx.out j (by omega); rw [← hv'.out] at this; exact this
      go_wp2
      go_round
      case rel => exact ⟨j + 1, v' * 256 + c.toNat, by omega, by go_num, by rw [step_be v' c HV.out hb1a hb1b], by show _ = _; rw [be, ← hv'.out, HCE.out]; rfl⟩
      case measure => simp [intOf]; omega
    · have hjk' : j = k := by omega
      have e1 : v' = v := by rw [hv'.out, hv.out, hjk']
      have hge : k ≤ j := by omega
      clear hjk hjk' hv'
      subst e1
      go_wp2
      go_region
      all_goals go_wp2
      all_goals go_ret3
      all_goals exact ⟨by simp [cutV, *], (World.cell?_setCell_same _ _ _ hr1).trans (by simp [cutV, *]), (HB.out.setCell (Nat.le_refl _) _).drew⟩
set_option maxRecDepth 100000 in
set_option maxHeartbeats 3200000 in
theorem read_long_b (F : Interp) (br b off k v : Nat) (t c2 : Int) (xs : List Int) (w : World) (hF : F.answers w.tape) (h0 : 0 ≤ t) (h1 : t ≤ 255) (hr : w.cell? ⟨br, 0, none⟩ = some (.slice (some ⟨b, off, none⟩) (2 + k + v) (2 + k + v)))
    (hfr : w.frozen? ⟨br, 0, none⟩ = false) (hbx : Hid (∀ x ∈ xs, 0 ≤ x ∧ x ≤ 255))
    (hc0 : w.cell? ⟨b, off, none⟩ = some (.int .u8 t)) (hc1 : w.cell? ⟨b, off + 1, none⟩ = some (.int .u8 (128 + (k : Int)))) (hc2 : w.cell? ⟨b, off + 2, none⟩ = some (.int .u8 c2))
    (hcs : Hid (∀ j, j < k → w.cell? ⟨b, off + 2 + j, none⟩ = some (.int .u8 (xs.getD (j + 2) 0)))) (hk1 : 1 ≤ k) (hk4 : k ≤ 4) (hv : Hid (v = be xs k)) (hn : 2 + k + v ≤ 4194304) (hnz : (c2 == 0) = false) (hbad : 128 ≤ v) :
    Calls Tryf.prog 20 #[.pointer (some ⟨br, 0, none⟩), .int .u8 t] w (ReadOk br b off (2 + k + v) (2 + k + v) (2 + k) v w) := by
  have hand := and_127 k (by omega)
  have hv8 : (128 : Int) ≤ (v : Int) := by omega
  have hn0 : ((2 : Int) + (k : Int) + (v : Int) == 0) = false := by simp; omega
  have hcB : ¬ v = 0 := by omega
  have hcD : ¬ 2 + k + v = 2 := by omega
  have hcE : ¬ 2 + k + v = 0 := by omega
  go_enter Tryf.func20, Tryf.ntmps20
  go_wp2_with fail
  refine (tag_any F t _ (by exact hF) h0 h1).mono ?_
  rintro e w1 ⟨⟨nm, rfl⟩, hb⟩
  have hr1 : w1.cell? ⟨br, 0, none⟩ = some (.slice (some ⟨b, off, none⟩) (2 + k + v) (2 + k + v)) := by rw [hb.cell (lt_of_cell hr), hr]
  have hd0 : w1.cell? ⟨b, off, none⟩ = some (.int .u8 t) := by rw [hb.cell (lt_of_cell hc0), hc0]
  have hd1 : w1.cell? ⟨b, off + 1, none⟩ = some (.int .u8 (128 + (k : Int))) := by rw [hb.cell (lt_of_cell hc1), hc1]
  have hd2 : w1.cell? ⟨b, off + 2, none⟩ = some (.int .u8 c2) := by rw [hb.cell (lt_of_cell hc2), hc2]
  have hds : Hid (∀ j, j < k → w1.cell? ⟨b, off + 2 + j, none⟩ = some (.int .u8 (xs.getD (j + 2) 0))) := by
    intro j hj
    rw [hb.cell (lt_of_cell (hcs.out j hj)), hcs.out j hj]
  have hfr1 : w1.frozen? ⟨br, 0, none⟩ = false := by rw [hb.frozen (lt_of_cell hr), hfr]
  have hF1 : F.answers w1.tape := by rw [hb.tape]; exact hF
  have HB := hide_below (hb.mono (show br ≤ w.heap.size by have := lt_of_cell hr; omega))
  clear hcs
  go_wp2
  go_loop [9, 12, 109] (fun len c i => ∃ j v' : Nat, j ≤ k ∧ i = .int .i64 j ∧ len = .int .u64 v' ∧ Hid (v' = be xs j)) (fun _ _ i => k - (intOf i).toNat)
  case atStart => exact ⟨0, 0, by omega, rfl, rfl, rfl⟩
  case round =>
    obtain ⟨j, v', hj, rfl, rfl, hv'⟩ := hrel
    by_cases hjk : j < k
    · obtain ⟨c, hce⟩ : ∃ c, c = xs.getD (j + 2) 0 := ⟨_, rfl⟩
      have hcj : w1.cell? ⟨b, off + 2 + j, none⟩ = some (.int .u8 c) := by rw [hds.out j hjk, hce]
      have HCE : Hid (c = xs.getD (j + 2) 0) := hce
      obtain ⟨hb1a, hb1b⟩ : 0 ≤ c ∧ c ≤ 255 := by rw [hce]; exact byte_at hbx.out _
      clear hce
      have HV : Hid (v' < 4294967296) := by have := be_lt hbx.out j (by omega); rw [← hv'.out] at this; exact this
      go_wp2
      go_round
      case rel => exact ⟨j + 1, v' * 256 + c.toNat, by omega, by go_num, by rw [step_be v' c HV.out hb1a hb1b], by show _ = _; rw [be, ← hv'.out, HCE.out]; rfl⟩
      case measure => simp [intOf]; omega
    · have hjk' : j = k := by omega
      have e1 : v' = v := by rw [hv'.out, hv.out, hjk']
      have hge : k ≤ j := by omega
      clear hjk hjk' hv'
      subst e1
      go_wp2
      go_region
      all_goals go_wp2
      all_goals go_ret3
      all_goals exact ⟨by simp [cutV, *], (World.cell?_setCell_same _ _ _ hr1).trans (by simp [cutV, *]), (HB.out.setCell (Nat.le_refl _) _).drew⟩
end Go.Proofs.Qxb6619177aFmt
