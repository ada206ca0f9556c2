import Derived.Test.Qxb6619177aFmtRead2
namespace Go.Proofs.Qxb6619177aFmt
open Go.RowKit Go.Extern.Stop Go.Stop Go.Extern
set_option linter.unusedVariables false
set_option linter.unusedSimpArgs false

/-- a cut of the slice at ⟨b, off⟩ of capacity cap. -/
def cutV (b off cap lo hi : Nat) : Value := .slice (some (if cap = lo then ⟨b, off, none⟩ else ⟨b, off + lo, none⟩)) (hi - lo) (cap - lo)
/-- read SUCCEEDS: the whole, the contents, no error; the Reader holds the rest; below its block nothing has turned. -/
def ReadOk (br b off n cap h l : Nat) (w : World) (e : Ending) (w' : World) : Prop :=
  e = .returned (.tuple #[cutV b off cap 0 (h + l), cutV b off cap h (h + l), .nilIface]) ∧ w'.cell? ⟨br, 0, none⟩ = some (cutV b off cap (h + l) n) ∧ Below br w w'

set_option maxRecDepth 100000 in
set_option maxHeartbeats 1600000 in
theorem read_short_past (F : Interp) (br b off n cap L : Nat) (t : Int) (w : World) (hF : F.answers w.tape) (h0 : 0 ≤ t) (h1 : t ≤ 255) (hr : w.cell? ⟨br, 0, none⟩ = some (.slice (some ⟨b, off, none⟩) n cap))
    (hn2 : 2 ≤ n) (hn : n ≤ 4194304) (hc0 : w.cell? ⟨b, off, none⟩ = some (.int .u8 t)) (hc1 : w.cell? ⟨b, off + 1, none⟩ = some (.int .u8 (L : Int))) (hL : L < 128) (hp : n < L + 2) :
    Calls Tryf.prog 20 #[.pointer (some ⟨br, 0, none⟩), .int .u8 t] w (ReadErr w) := by
  have hn' : (1 : Int) < (n : Int) := by omega
  have hn0 : ((n : Int) == 0) = false := by simp; omega
  have hL' : (L : Int) < 128 := by omega
  have hp' : (n : Int) - 2 < (L : Int) := by omega
  go_enter Tryf.func20, Tryf.ntmps20
  go_wp2_with fail
  refine (tag_any F t _ (by exact hF) h0 h1).mono ?_
  rintro e w1 ⟨⟨nm, rfl⟩, hb⟩
  have hr1 : w1.cell? ⟨br, 0, none⟩ = some (.slice (some ⟨b, off, none⟩) n cap) := by rw [hb.cell (lt_of_cell hr), hr]
  have hd0 : w1.cell? ⟨b, off, none⟩ = some (.int .u8 t) := by rw [hb.cell (lt_of_cell hc0), hc0]
  have hd1 : w1.cell? ⟨b, off + 1, none⟩ = some (.int .u8 (L : Int)) := by rw [hb.cell (lt_of_cell hc1), hc1]
  have hF1 : F.answers w1.tape := by rw [hb.tape]; exact hF
  go_wp2_with (go_at_call 23; refine (errorf_sdd F nm (L : Int) ((n : Int) - 2) _ _ (by exact hF1) (by go_simp) (by go_simp) (by go_simp)).mono ?_; rintro e w2 ⟨s, rfl, rfl⟩)
  go_ret3
  exact readErr_of hb

theorem hide_below {B : Nat} {w w' : World} (h : Below B w w') : Hid (Below B w w') := h

set_option maxRecDepth 100000 in
set_option maxHeartbeats 1600000 in
theorem read_short_a (F : Interp) (br b off n L : Nat) (t : Int) (w : World) (hF : F.answers w.tape) (h0 : 0 ≤ t) (h1 : t ≤ 255) (hr : w.cell? ⟨br, 0, none⟩ = some (.slice (some ⟨b, off, none⟩) n n))
    (hfr : w.frozen? ⟨br, 0, none⟩ = false)
    (hc0 : w.cell? ⟨b, off, none⟩ = some (.int .u8 t)) (hc1 : w.cell? ⟨b, off + 1, none⟩ = some (.int .u8 (L : Int))) (hL : L < 128) (hn : n ≤ 4194304) (hp : 2 + L < n) :
    Calls Tryf.prog 20 #[.pointer (some ⟨br, 0, none⟩), .int .u8 t] w (ReadOk br b off n n 2 L w) := by
  have hn' : (1 : Int) < (n : Int) := by omega
  have hn0 : ((n : Int) == 0) = false := by simp; omega
  have hL' : (L : Int) < 128 := by omega
  have hp' : (L : Int) ≤ (n : Int) - 2 := by omega
  have hc2 : ¬ n = 2 := by omega
  have hc3 : ¬ n = 0 := by omega
  have hc4 : ¬ n = 2 + L := by omega
  go_enter Tryf.func20, Tryf.ntmps20
  go_wp2_with fail
  refine (tag_any F t _ (by exact hF) h0 h1).mono ?_
  rintro e w1 ⟨⟨nm, rfl⟩, hb⟩
  have hr1 : w1.cell? ⟨br, 0, none⟩ = some (.slice (some ⟨b, off, none⟩) n n) := by rw [hb.cell (lt_of_cell hr), hr]
  have hd0 : w1.cell? ⟨b, off, none⟩ = some (.int .u8 t) := by rw [hb.cell (lt_of_cell hc0), hc0]
  have hd1 : w1.cell? ⟨b, off + 1, none⟩ = some (.int .u8 (L : Int)) := by rw [hb.cell (lt_of_cell hc1), hc1]
  have hfr1 : w1.frozen? ⟨br, 0, none⟩ = false := by rw [hb.frozen (lt_of_cell hr), hfr]
  have HB := hide_below (hb.mono (show br ≤ w.heap.size by have := lt_of_cell hr; omega))
  go_wp2
  go_region
  all_goals go_wp2
  all_goals go_ret3
  all_goals exact ⟨by simp [cutV, *], (World.cell?_setCell_same _ _ _ hr1).trans (by simp [cutV, *]), (HB.out.setCell (Nat.le_refl _) _).drew⟩

set_option maxRecDepth 100000 in
set_option maxHeartbeats 1600000 in
theorem read_short_b (F : Interp) (br b off L : Nat) (t : Int) (w : World) (hF : F.answers w.tape) (h0 : 0 ≤ t) (h1 : t ≤ 255) (hr : w.cell? ⟨br, 0, none⟩ = some (.slice (some ⟨b, off, none⟩) (2 + L) (2 + L)))
    (hfr : w.frozen? ⟨br, 0, none⟩ = false)
    (hc0 : w.cell? ⟨b, off, none⟩ = some (.int .u8 t)) (hc1 : w.cell? ⟨b, off + 1, none⟩ = some (.int .u8 (L : Int))) (hL : L < 128) (hL0 : 1 ≤ L) :
    Calls Tryf.prog 20 #[.pointer (some ⟨br, 0, none⟩), .int .u8 t] w (ReadOk br b off (2 + L) (2 + L) 2 L w) := by
  have hL' : (L : Int) < 128 := by omega
  have hL1 : ¬ L = 0 := by omega
  have hn0 : ((2 : Int) + (L : Int) == 0) = false := by simp; omega
  go_enter Tryf.func20, Tryf.ntmps20
  go_wp2_with fail
  refine (tag_any F t _ (by exact hF) h0 h1).mono ?_
  rintro e w1 ⟨⟨nm, rfl⟩, hb⟩
  have hr1 : w1.cell? ⟨br, 0, none⟩ = some (.slice (some ⟨b, off, none⟩) (2 + L) (2 + L)) := by rw [hb.cell (lt_of_cell hr), hr]
  have hd0 : w1.cell? ⟨b, off, none⟩ = some (.int .u8 t) := by rw [hb.cell (lt_of_cell hc0), hc0]
  have hd1 : w1.cell? ⟨b, off + 1, none⟩ = some (.int .u8 (L : Int)) := by rw [hb.cell (lt_of_cell hc1), hc1]
  have hfr1 : w1.frozen? ⟨br, 0, none⟩ = false := by rw [hb.frozen (lt_of_cell hr), hfr]
  have HB := hide_below (hb.mono (show br ≤ w.heap.size by have := lt_of_cell hr; omega))
  go_wp2
  go_region
  all_goals go_wp2
  all_goals go_ret3
  all_goals exact ⟨by simp [cutV, *], (World.cell?_setCell_same _ _ _ hr1).trans (by simp [cutV, *]), (HB.out.setCell (Nat.le_refl _) _).drew⟩

set_option maxRecDepth 100000 in
set_option maxHeartbeats 1600000 in
theorem read_short_c (F : Interp) (br b off : Nat) (t : Int) (w : World) (hF : F.answers w.tape) (h0 : 0 ≤ t) (h1 : t ≤ 255) (hr : w.cell? ⟨br, 0, none⟩ = some (.slice (some ⟨b, off, none⟩) 2 2))
    (hfr : w.frozen? ⟨br, 0, none⟩ = false)
    (hc0 : w.cell? ⟨b, off, none⟩ = some (.int .u8 t)) (hc1 : w.cell? ⟨b, off + 1, none⟩ = some (.int .u8 0))  :
    Calls Tryf.prog 20 #[.pointer (some ⟨br, 0, none⟩), .int .u8 t] w (ReadOk br b off 2 2 2 0 w) := by
  go_enter Tryf.func20, Tryf.ntmps20
  go_wp2_with fail
  refine (tag_any F t _ (by exact hF) h0 h1).mono ?_
  rintro e w1 ⟨⟨nm, rfl⟩, hb⟩
  have hr1 : w1.cell? ⟨br, 0, none⟩ = some (.slice (some ⟨b, off, none⟩) 2 2) := by rw [hb.cell (lt_of_cell hr), hr]
  have hd0 : w1.cell? ⟨b, off, none⟩ = some (.int .u8 t) := by rw [hb.cell (lt_of_cell hc0), hc0]
  have hd1 : w1.cell? ⟨b, off + 1, none⟩ = some (.int .u8 0) := by rw [hb.cell (lt_of_cell hc1), hc1]
  have hfr1 : w1.frozen? ⟨br, 0, none⟩ = false := by rw [hb.frozen (lt_of_cell hr), hfr]
  have HB := hide_below (hb.mono (show br ≤ w.heap.size by have := lt_of_cell hr; omega))
  go_wp2
  go_region
  all_goals go_wp2
  all_goals go_ret3
  all_goals exact ⟨by simp [cutV, *], (World.cell?_setCell_same _ _ _ hr1).trans (by simp [cutV, *]), (HB.out.setCell (Nat.le_refl _) _).drew⟩

end Go.Proofs.Qxb6619177aFmt
