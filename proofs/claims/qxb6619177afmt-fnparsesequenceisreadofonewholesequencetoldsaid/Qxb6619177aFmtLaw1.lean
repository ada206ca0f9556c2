import Derived.Test.Qxb6619177aFmtLawA
namespace Go.Proofs.Qxb6619177aFmt
open Go.RowKit Go.Extern.Stop Go.Stop Go.Extern
set_option linter.unusedVariables false
set_option linter.unusedSimpArgs false

set_option maxRecDepth 100000 in
set_option maxHeartbeats 1600000 in
theorem law1_big (ao : Option Addr) (n cap : Nat) (t : Int) (w : World) (hn : 1048576 < n) (hm : n ≤ 9223372036854775807) :
    Calls Tryf.prog 3 #[.slice ao n cap, .int .u8 t] w fun e w' => e = .returned (.bool true) ∧ Below w.heap.size w w' := by
  have hn' : (1048576 : Int) < (n : Int) := by omega
  have HM : Hid (n ≤ 9223372036854775807) := hm
  clear hm
  go_enter Tryf.func3, Tryf.ntmps3
  go_wp2
  go_ret
  exact ⟨rfl, Below.refl _ _⟩

set_option maxRecDepth 100000 in
set_option maxHeartbeats 1600000 in
theorem law1_none (F : Interp) (ao : Option Addr) (n cap : Nat) (t : Int) (xs : List Int) (w : World) (hF : F.answers w.tape) (h0 : 0 ≤ t) (h1 : t ≤ 255) (hx : Byt w ao n cap xs) (hn : n ≤ 1048576) (hrd : rd xs t = none) :
    Calls Tryf.prog 3 #[.slice ao n cap, .int .u8 t] w fun e w' => e = .returned (.bool true) ∧ Below w.heap.size w w' := by
  have hn' : (n : Int) ≤ 1048576 := by omega
  have HX : Hid (Byt w ao n cap xs) := hx
  have HR : Hid (rd xs t = none) := hrd
  clear hx hrd
  go_enter Tryf.func3, Tryf.ntmps3
  go_wp2_with (go_at_call 7; go_in)
  refine (clone_any ao n cap xs w HX.out hn).mono ?_
  rintro e w1 ⟨a', rfl, hnil, hb1, hlt, hbel1⟩
  go_wp2_with fail
  refine (zz_any F a' n t xs w1 (by rw [hbel1.tape]; exact hF) h0 h1 hb1 hlt (by omega)).mono ?_
  intro e w2 hp
  rw [HR.out] at hp
  obtain ⟨⟨p, rfl⟩, hbel2⟩ := hp
  go_wp2_with fail
  have hbel12 : Below w.heap.size w w2 := hbel1.trans (hbel2.mono hbel1.size)
  refine (mh_any ao n cap t xs w2 (byt_below HX.out hbel12) hn).mono ?_
  rintro e w3 ⟨he, hbel3⟩
  rw [HR.out] at he
  obtain rfl : e = .returned (.tuple #[.bool false, .int .i64 0, .int .i64 0]) := he
  have hbel13 : Below w.heap.size w w3 := hbel12.trans (hbel3.mono hbel12.size)
  have y1 : Hid (Byt w3 a' n n xs) := byt_below (byt_below hb1 hbel2) hbel3
  have y2 : Hid (Byt w3 ao n cap xs) := byt_below HX.out hbel13
  have q1 := fun wx => Lib.run_eql_slice_nil (P := Tryf.prog) wx 22 5 none 0 0 0 0 Tryf.underlying22
  have q2 := fun wx => Lib.run_eql_slice_nil (P := Tryf.prog) wx 22 5 a' n n 0 0 Tryf.underlying22
  have q3 := fun wx => Lib.run_eql_slice_nil (P := Tryf.prog) wx 22 5 ao n cap 0 0 Tryf.underlying22
  clear hb1 hlt
  go_wp2_with (go_at_call 11; refine (eq_yes _ _ _ _ _ _ xs xs _ y1.out y2.out rfl).mono ?_; rintro e w4 ⟨rfl, q, rfl⟩)
  go_ret
  exact ⟨rfl, below_drewN hbel13 q⟩

theorem rd_le {xs : List Int} {t : Int} {h l : Nat} (hr : rd xs t = some (h, l)) : 2 ≤ h ∧ h + l ≤ xs.length ∧ h ≤ 6 := by
  unfold rd at hr
  split at hr
  · cases hr
  · split at hr
    · split at hr
      · simp only [Option.some.injEq, Prod.mk.injEq] at hr; omega
      · cases hr
    · split at hr
      · cases hr
      · split at hr
        · simp only [Option.some.injEq, Prod.mk.injEq] at hr; omega
        · cases hr

set_option maxRecDepth 100000 in
set_option maxHeartbeats 1600000 in
theorem law1_some (F : Interp) (ao : Option Addr) (n cap h l : Nat) (t : Int) (xs : List Int) (w : World) (hF : F.answers w.tape) (h0 : 0 ≤ t) (h1 : t ≤ 255) (hx : Byt w ao n cap xs) (hn : n ≤ 1048576) (hrd : rd xs t = some (h, l)) :
    Calls Tryf.prog 3 #[.slice ao n cap, .int .u8 t] w fun e w' => e = .returned (.bool true) ∧ Below w.heap.size w w' := by
  have hn' : (n : Int) ≤ 1048576 := by omega
  have HX : Hid (Byt w ao n cap xs) := hx
  have HR : Hid (rd xs t = some (h, l)) := hrd
  obtain ⟨r1, r2, r3⟩ := rd_le hrd
  rw [hx.1] at r2
  have hcap := hx.2.1
  have hcm := hx.2.2.1
  clear hx hrd
  go_enter Tryf.func3, Tryf.ntmps3
  go_wp2_with (go_at_call 7; go_in)
  refine (clone_any ao n cap xs w HX.out hn).mono ?_
  rintro e w1 ⟨a', rfl, hnil, hb1, hlt, hbel1⟩
  go_wp2_with fail
  refine (zz_any F a' n t xs w1 (by rw [hbel1.tape]; exact hF) h0 h1 hb1 hlt (by omega)).mono ?_
  intro e w2 hp
  rw [HR.out] at hp
  obtain ⟨a1, c1, a2, c2, a3, c3, rfl, z1, z2, z3, hbel2⟩ := hp
  go_wp2_with fail
  have hbel12 : Below w.heap.size w w2 := hbel1.trans (hbel2.mono hbel1.size)
  refine (mh_any ao n cap t xs w2 (byt_below HX.out hbel12) hn).mono ?_
  rintro e w3 ⟨he, hbel3⟩
  rw [HR.out] at he
  obtain rfl : e = .returned (.tuple #[.bool true, .int .i64 h, .int .i64 l]) := he
  have hbel13 : Below w.heap.size w w3 := hbel12.trans (hbel3.mono hbel12.size)
  have y1 : Hid (Byt w3 a1 (h + l) c1 (xs.take (h + l))) := byt_below z1 hbel3
  have y2 : Hid (Byt w3 a2 l c2 ((xs.take (h + l)).drop h)) := byt_below z2 hbel3
  have y3 : Hid (Byt w3 a3 (n - (h + l)) c3 (xs.drop (h + l))) := byt_below z3 hbel3
  have y0 : Hid (Byt w3 ao n cap xs) := byt_below HX.out hbel13
  obtain ⟨A1, hA1⟩ : ∃ A, A = (if cap = 0 then ao else ao.map (·.add 0)) := ⟨_, rfl⟩
  obtain ⟨A2, hA2⟩ : ∃ A, A = (if cap = h then ao else ao.map (·.add h)) := ⟨_, rfl⟩
  obtain ⟨A3, hA3⟩ : ∃ A, A = (if cap = h + l then ao else ao.map (·.add (h + l))) := ⟨_, rfl⟩
  have s1 := fun wx => slice_h ao n cap (h + l) (by omega) ((h : Int) + (l : Int)) (by omega) wx
  have s2 := fun wx => slice_lh ao n cap h (h + l) (by omega) (by omega) (h : Int) ((h : Int) + (l : Int)) rfl (by omega) wx
  have s3 := fun wx => slice_l ao n cap (h + l) (by omega) ((h : Int) + (l : Int)) (by omega) wx
  have x1 : Hid (Byt w3 A1 (h + l) cap (xs.take (h + l))) := by
    rw [hA1]; have := byt_cut y0.out (lo := 0) (hi := h + l) (by omega) (by omega); rw [List.drop_zero, Nat.sub_zero, Nat.sub_zero] at this; exact this
  have x2 : Hid (Byt w3 A2 l (cap - h) ((xs.take (h + l)).drop h)) := by
    rw [hA2]; have := byt_cut y0.out (lo := h) (hi := h + l) (by omega) (by omega); rw [show h + l - h = l by omega] at this; exact this
  have x3 : Hid (Byt w3 A3 (n - (h + l)) (cap - (h + l)) (xs.drop (h + l))) := by
    rw [hA3]
    have := byt_cut y0.out (lo := h + l) (hi := n) (by omega) (Nat.le_refl _)
    rw [List.take_of_length_le (by have := y0.out.1; omega)] at this
    exact this
  rw [← hA1] at s1
  rw [← hA2] at s2
  rw [← hA3] at s3
  clear hA1 hA2 hA3 hb1 hlt z1 z2 z3
  go_wp2_with fail
  refine (eq_yes _ _ _ _ _ _ (xs.take (h + l)) (xs.take (h + l)) _ y1.out x1.out rfl).mono ?_
  rintro e w4 ⟨rfl, q1, rfl⟩
  go_wp2_with fail
  refine (eq_yes _ _ _ _ _ _ ((xs.take (h + l)).drop h) ((xs.take (h + l)).drop h) _ (byt_drewN y2.out) (byt_drewN x2.out) rfl).mono ?_
  rintro e w5 ⟨rfl, q2, rfl⟩
  go_wp2_with fail
  refine (eq_yes _ _ _ _ _ _ (xs.drop (h + l)) (xs.drop (h + l)) _ (byt_drewN y3.out) (byt_drewN x3.out) rfl).mono ?_
  rintro e w6 ⟨rfl, q3, rfl⟩
  go_wp2
  go_ret
  exact ⟨rfl, by first | exact below_drewN hbel13 _ | exact below_drewN (below_drewN hbel13 _) _⟩

/-- ████ THE LAW's WALK ████ -/
theorem law1 (F : Interp) (ao : Option Addr) (n cap : Nat) (t : Int) (xs : List Int) (w : World) (hF : F.answers w.tape) (h0 : 0 ≤ t) (h1 : t ≤ 255) (hx : Byt w ao n cap xs) :
    Calls Tryf.prog 3 #[.slice ao n cap, .int .u8 t] w fun e w' => e = .returned (.bool true) ∧ Below w.heap.size w w' := by
  by_cases hn : n ≤ 1048576
  · cases hrd : rd xs t with
    | none => exact law1_none F ao n cap t xs w hF h0 h1 hx hn hrd
    | some r => exact law1_some F ao n cap r.1 r.2 t xs w hF h0 h1 hx hn hrd
  · exact law1_big ao n cap t w (by omega) (by have := hx.2.1; have := hx.2.2.1; omega)
end Go.Proofs.Qxb6619177aFmt
