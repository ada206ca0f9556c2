import Derived.Test.Qxb6619177aFmtRead
namespace Go.Proofs.Qxb6619177aFmt
open Go.RowKit Go.Extern.Stop Go.Stop Go.Extern
set_option linter.unusedVariables false
set_option linter.unusedSimpArgs false

set_option maxRecDepth 100000 in
set_option maxHeartbeats 1600000 in
theorem read_indef (F : Interp) (br b off n cap k : Nat) (t : Int) (w : World) (hF : F.answers w.tape) (h0 : 0 ≤ t) (h1 : t ≤ 255) (hr : w.cell? ⟨br, 0, none⟩ = some (.slice (some ⟨b, off, none⟩) n cap))
    (hn2 : 2 ≤ n) (hn : n ≤ 4194304) (hc0 : w.cell? ⟨b, off, none⟩ = some (.int .u8 t)) (hc1 : w.cell? ⟨b, off + 1, none⟩ = some (.int .u8 (128 + (k : Int)))) (hk : k ≤ 0) :
    Calls Tryf.prog 20 #[.pointer (some ⟨br, 0, none⟩), .int .u8 t] w (ReadErr w) := by
  have hn' : (1 : Int) < (n : Int) := by omega
  have hn0 : ((n : Int) == 0) = false := by simp; omega
  have hand := and_127 k (by omega)
  have hk0 : (k : Int) ≤ 0 := by omega
  go_enter Tryf.func20, Tryf.ntmps20
  go_wp2_with fail
  refine (tag_any F t _ (by exact hF) h0 h1).mono ?_
  rintro e w1 ⟨⟨nm, rfl⟩, hb⟩
  have hr1 : w1.cell? ⟨br, 0, none⟩ = some (.slice (some ⟨b, off, none⟩) n cap) := by rw [hb.cell (lt_of_cell hr), hr]
  have hd0 : w1.cell? ⟨b, off, none⟩ = some (.int .u8 t) := by rw [hb.cell (lt_of_cell hc0), hc0]
  have hd1 : w1.cell? ⟨b, off + 1, none⟩ = some (.int .u8 (128 + (k : Int))) := by rw [hb.cell (lt_of_cell hc1), hc1]
  have hF1 : F.answers w1.tape := by rw [hb.tape]; exact hF
  go_wp2_with (go_at_call 23; refine (errorf_s2 F nm _ _ (by exact hF1) (by go_simp)).mono ?_; rintro e w2 ⟨s, rfl, rfl⟩)
  go_ret3
  exact readErr_of hb

set_option maxRecDepth 100000 in
set_option maxHeartbeats 1600000 in
theorem read_toolong (F : Interp) (br b off n cap k : Nat) (t : Int) (w : World) (hF : F.answers w.tape) (h0 : 0 ≤ t) (h1 : t ≤ 255) (hr : w.cell? ⟨br, 0, none⟩ = some (.slice (some ⟨b, off, none⟩) n cap))
    (hn2 : 2 ≤ n) (hn : n ≤ 4194304) (hc0 : w.cell? ⟨b, off, none⟩ = some (.int .u8 t)) (hc1 : w.cell? ⟨b, off + 1, none⟩ = some (.int .u8 (128 + (k : Int)))) (hk : 4 < k) (hk2 : k < 128) :
    Calls Tryf.prog 20 #[.pointer (some ⟨br, 0, none⟩), .int .u8 t] w (ReadErr w) := by
  have hn' : (1 : Int) < (n : Int) := by omega
  have hn0 : ((n : Int) == 0) = false := by simp; omega
  have hand := and_127 k (by omega)
  have hk0 : (4 : Int) < (k : Int) := by omega
  go_enter Tryf.func20, Tryf.ntmps20
  go_wp2_with fail
  refine (tag_any F t _ (by exact hF) h0 h1).mono ?_
  rintro e w1 ⟨⟨nm, rfl⟩, hb⟩
  have hr1 : w1.cell? ⟨br, 0, none⟩ = some (.slice (some ⟨b, off, none⟩) n cap) := by rw [hb.cell (lt_of_cell hr), hr]
  have hd0 : w1.cell? ⟨b, off, none⟩ = some (.int .u8 t) := by rw [hb.cell (lt_of_cell hc0), hc0]
  have hd1 : w1.cell? ⟨b, off + 1, none⟩ = some (.int .u8 (128 + (k : Int))) := by rw [hb.cell (lt_of_cell hc1), hc1]
  have hF1 : F.answers w1.tape := by rw [hb.tape]; exact hF
  go_wp2_with (go_at_call 23; refine (errorf_sd F nm (k : Int) _ _ (by exact hF1) (by go_simp) (by go_simp)).mono ?_; rintro e w2 ⟨s, rfl, rfl⟩)
  go_ret3
  exact readErr_of hb

set_option maxRecDepth 100000 in
set_option maxHeartbeats 1600000 in
theorem read_cutlen (F : Interp) (br b off n cap k : Nat) (t : Int) (w : World) (hF : F.answers w.tape) (h0 : 0 ≤ t) (h1 : t ≤ 255) (hr : w.cell? ⟨br, 0, none⟩ = some (.slice (some ⟨b, off, none⟩) n cap))
    (hn2 : 2 ≤ n) (hn : n ≤ 4194304) (hc0 : w.cell? ⟨b, off, none⟩ = some (.int .u8 t)) (hc1 : w.cell? ⟨b, off + 1, none⟩ = some (.int .u8 (128 + (k : Int)))) (hk : 1 ≤ k) (hk2 : k ≤ 4) (hk3 : n < 2 + k) :
    Calls Tryf.prog 20 #[.pointer (some ⟨br, 0, none⟩), .int .u8 t] w (ReadErr w) := by
  have hn' : (1 : Int) < (n : Int) := by omega
  have hn0 : ((n : Int) == 0) = false := by simp; omega
  have hand := and_127 k (by omega)
  have hk0 : (1 : Int) ≤ (k : Int) := by omega
  go_enter Tryf.func20, Tryf.ntmps20
  go_wp2_with fail
  refine (tag_any F t _ (by exact hF) h0 h1).mono ?_
  rintro e w1 ⟨⟨nm, rfl⟩, hb⟩
  have hr1 : w1.cell? ⟨br, 0, none⟩ = some (.slice (some ⟨b, off, none⟩) n cap) := by rw [hb.cell (lt_of_cell hr), hr]
  have hd0 : w1.cell? ⟨b, off, none⟩ = some (.int .u8 t) := by rw [hb.cell (lt_of_cell hc0), hc0]
  have hd1 : w1.cell? ⟨b, off + 1, none⟩ = some (.int .u8 (128 + (k : Int))) := by rw [hb.cell (lt_of_cell hc1), hc1]
  have hF1 : F.answers w1.tape := by rw [hb.tape]; exact hF
  go_wp2_with (go_at_call 23; refine (errorf_s3 F nm _ _ (by exact hF1) (by go_simp)).mono ?_; rintro e w2 ⟨s, rfl, rfl⟩)
  go_ret3
  exact readErr_of hb
end Go.Proofs.Qxb6619177aFmt
