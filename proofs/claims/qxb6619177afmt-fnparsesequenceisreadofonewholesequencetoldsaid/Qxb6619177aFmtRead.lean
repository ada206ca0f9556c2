import Derived.Test.Qxb6619177aFmtFacts
import Derived.Test.Qxb6619177aFmtPlain
namespace Go.Proofs.Qxb6619177aFmt
open Go.RowKit Go.Extern.Stop Go.Stop Go.Extern
set_option linter.unusedVariables false
set_option linter.unusedSimpArgs false
attribute [local go_sem] call28 fguard opB1 opB2 f_br f_brr g_br g_brr f_tg f_tgr g_tg g_tgr

set_option maxHeartbeats 1600000 in
theorem tag_any (F : Interp) (t : Int) (w : World) (hF : F.answers w.tape) (h0 : 0 ≤ t) (h1 : t ≤ 255) :
    Calls Tryf.prog 25 #[.int .u8 t] w fun e w' => (∃ s, e = .returned (.string s)) ∧ Below w.heap.size w w' := by
  have hF' := answers_open hF
  go_enter Tryf.func25, Tryf.ntmps25
  go_wp2
  all_goals
    go_ret
    exact ⟨⟨_, rfl⟩, by repeat (first | exact Below.refl _ _ | apply Below.drew | (refine Below.alloc ?_ (by simp) _))⟩

/-- read ERRS: nothing is given, nothing old has turned; the error is a new *errors.errorString. -/
def ReadErr (w : World) (e : Ending) (w' : World) : Prop :=
  ∃ p s, e = .returned (.tuple #[.slice none 0 0, .slice none 0 0, .iface 58 (.pointer (some p))]) ∧ w'.cell? p = some (.string s) ∧ Below w.heap.size w w'

theorem readErr_of {w w1 : World} {o : Obj} {s : ByteArray} (hb : Below w.heap.size w w1) :
    ReadErr w (.returned (.tuple #[.slice none 0 0, .slice none 0 0, .iface 58 (.pointer (some ⟨w1.heap.size + 1, 0, none⟩))])) ((w1.alloc o).alloc (.cells #[.string s] 60)).drew := by
  refine ⟨_, s, rfl, by simp, ?_⟩
  have := hb.size
  exact ((hb.alloc this _).alloc (by simp; omega) _).drew

set_option maxRecDepth 100000 in
set_option maxHeartbeats 1600000 in
theorem read_empty (F : Interp) (ao : Option Addr) (br cap : Nat) (t : Int) (w : World) (hF : F.answers w.tape) (h0 : 0 ≤ t) (h1 : t ≤ 255) (hr : w.cell? ⟨br, 0, none⟩ = some (.slice ao 0 cap)) :
    Calls Tryf.prog 20 #[.pointer (some ⟨br, 0, none⟩), .int .u8 t] w (ReadErr w) := by
  go_enter Tryf.func20, Tryf.ntmps20
  go_wp2_with fail
  refine (tag_any F t _ (by exact hF) h0 h1).mono ?_
  rintro e w1 ⟨⟨nm, rfl⟩, hb⟩
  have hr1 : w1.cell? ⟨br, 0, none⟩ = some (.slice ao 0 cap) := by rw [hb.cell (lt_of_cell hr), hr]
  have hF1 : F.answers w1.tape := by rw [hb.tape]; exact hF
  go_wp2_with (go_at_call 23; refine (errorf_s0 F nm _ _ (by exact hF1) (by go_simp)).mono ?_; rintro e w2 ⟨s, rfl, rfl⟩)
  go_ret3
  exact readErr_of hb

set_option maxRecDepth 100000 in
set_option maxHeartbeats 1600000 in
theorem read_other (F : Interp) (br b off n cap : Nat) (t c0 : Int) (w : World) (hF : F.answers w.tape) (h0 : 0 ≤ t) (h1 : t ≤ 255) (hr : w.cell? ⟨br, 0, none⟩ = some (.slice (some ⟨b, off, none⟩) n cap))
    (hn : 1 ≤ n) (hc0 : w.cell? ⟨b, off, none⟩ = some (.int .u8 c0)) (h2 : 0 ≤ c0) (h3 : c0 ≤ 255) (hne : (c0 != t) = true) :
    Calls Tryf.prog 20 #[.pointer (some ⟨br, 0, none⟩), .int .u8 t] w (ReadErr w) := by
  have hn' : (0 : Int) < (n : Int) := by omega
  have hn0 : ((n : Int) == 0) = false := by simp; omega
  go_enter Tryf.func20, Tryf.ntmps20
  go_wp2_with fail
  refine (tag_any F t _ (by exact hF) h0 h1).mono ?_
  rintro e w1 ⟨⟨nm, rfl⟩, hb⟩
  have hr1 : w1.cell? ⟨br, 0, none⟩ = some (.slice (some ⟨b, off, none⟩) n cap) := by rw [hb.cell (lt_of_cell hr), hr]
  have hc1 : w1.cell? ⟨b, off, none⟩ = some (.int .u8 c0) := by rw [hb.cell (lt_of_cell hc0), hc0]
  have hF1 : F.answers w1.tape := by rw [hb.tape]; exact hF
  go_wp2_with fail
  refine (tag_any F c0 _ (by exact hF1) h2 h3).mono ?_
  rintro e w2 ⟨⟨nm2, rfl⟩, hb2⟩
  have hF2 : F.answers w2.tape := by rw [hb2.tape]; exact hF1
  have hb3 : Below w.heap.size w w2 := hb.trans (hb2.mono hb.size)
  go_wp2_with (go_at_call 23; refine (errorf_ss F nm nm2 _ _ (by exact hF2) (by go_simp) (by go_simp)).mono ?_; rintro e w3 ⟨s, rfl, rfl⟩)
  go_ret3
  exact readErr_of hb3

set_option maxRecDepth 100000 in
set_option maxHeartbeats 1600000 in
theorem read_one (F : Interp) (br b off cap : Nat) (t : Int) (w : World) (hF : F.answers w.tape) (h0 : 0 ≤ t) (h1 : t ≤ 255) (hr : w.cell? ⟨br, 0, none⟩ = some (.slice (some ⟨b, off, none⟩) 1 cap))
    (hc0 : w.cell? ⟨b, off, none⟩ = some (.int .u8 t)) :
    Calls Tryf.prog 20 #[.pointer (some ⟨br, 0, none⟩), .int .u8 t] w (ReadErr w) := by
  go_enter Tryf.func20, Tryf.ntmps20
  go_wp2_with fail
  refine (tag_any F t _ (by exact hF) h0 h1).mono ?_
  rintro e w1 ⟨⟨nm, rfl⟩, hb⟩
  have hr1 : w1.cell? ⟨br, 0, none⟩ = some (.slice (some ⟨b, off, none⟩) 1 cap) := by rw [hb.cell (lt_of_cell hr), hr]
  have hc1 : w1.cell? ⟨b, off, none⟩ = some (.int .u8 t) := by rw [hb.cell (lt_of_cell hc0), hc0]
  have hF1 : F.answers w1.tape := by rw [hb.tape]; exact hF
  go_wp2_with (go_at_call 23; refine (errorf_s1 F nm _ _ (by exact hF1) (by go_simp)).mono ?_; rintro e w2 ⟨s, rfl, rfl⟩)
  go_ret3
  exact readErr_of hb

theorem and_127 (k : Nat) (hk : k < 128) : bits BinOp.and IntKind.u64 (128 + (k : Int)) 127 = (k : Int) := by
  have e : (128 + (k : Int)) = ((128 + k : Nat) : Int) := by omega
  rw [e, show (127 : Int) = ((127 : Nat) : Int) from rfl, u64_and_nat _ _ (by omega) (by omega)]
  have : (128 + k) &&& 127 = (128 + k) % 2 ^ 7 := Nat.and_two_pow_sub_one_eq_mod _ 7
  rw [this]
  omega

end Go.Proofs.Qxb6619177aFmt
