import Derived.Test.Qxb6619177aFmtSeq
namespace Go.Proofs.Qxb6619177aFmt
open Go.RowKit Go.Extern.Stop Go.Stop Go.Extern
set_option linter.unusedVariables false
set_option linter.unusedSimpArgs false

set_option maxRecDepth 100000 in
set_option maxHeartbeats 1600000 in
theorem law3_big (ao : Option Addr) (n cap : Nat) (nm : ByteArray) (w : World) (hn : 524288 < n ∨ 524288 < nm.size) (hm : Hid (n ≤ 9223372036854775807)) (hm2 : Hid (nm.size ≤ maxLen)) :
    Calls Tryf.prog 5 #[.slice ao n cap, .string nm] w fun e w' => e = .returned (.bool true) ∧ Below w.heap.size w w' := by
  by_cases c1 : 1048576 < n
  · have c1' : (1048576 : Int) < (n : Int) := by omega
    go_enter Tryf.func5, Tryf.ntmps5
    go_wp2
    go_ret
    exact ⟨rfl, Below.refl _ _⟩
  have c1' : (n : Int) ≤ 1048576 := by omega
  by_cases c2 : 1048576 < nm.size
  · have c2' : (1048576 : Int) < (nm.size : Int) := by omega
    go_enter Tryf.func5, Tryf.ntmps5
    go_wp2
    go_ret
    exact ⟨rfl, Below.refl _ _⟩
  have c2' : (nm.size : Int) ≤ 1048576 := by omega
  by_cases c3 : 1048576 < n + nm.size
  · have c3' : (1048576 : Int) < (n : Int) + (nm.size : Int) := by omega
    go_enter Tryf.func5, Tryf.ntmps5
    go_wp2
    go_ret
    exact ⟨rfl, Below.refl _ _⟩
  have c3' : (n : Int) + (nm.size : Int) ≤ 1048576 := by omega
  by_cases c4 : 524288 < n
  · have c4' : (524288 : Int) < (n : Int) := by omega
    go_enter Tryf.func5, Tryf.ntmps5
    go_wp2
    go_ret
    exact ⟨rfl, Below.refl _ _⟩
  · have c4' : (n : Int) ≤ 524288 := by omega
    have c5' : (524288 : Int) < (nm.size : Int) := by omega
    go_enter Tryf.func5, Tryf.ntmps5
    go_wp2
    go_ret
    exact ⟨rfl, Below.refl _ _⟩

set_option maxRecDepth 100000 in
set_option maxHeartbeats 1600000 in
theorem law3_none (F : Interp) (ao : Option Addr) (n cap : Nat) (nm : ByteArray) (xs : List Int) (w : World) (hF : F.answers w.tape) (hx : Byt w ao n cap xs) (hn : n ≤ 524288) (hm : nm.size ≤ 524288) (hrd : rd xs 48 = none) :
    Calls Tryf.prog 5 #[.slice ao n cap, .string nm] w fun e w' => e = .returned (.bool true) ∧ Below w.heap.size w w' := by
  have hn' : (n : Int) ≤ 524288 := by omega
  have hm' : (nm.size : Int) ≤ 524288 := by omega
  have HX : Hid (Byt w ao n cap xs) := hx
  have HR : Hid (rd xs 48 = none) := hrd
  have HP : Hid (ps xs = none) := by show _ = _; simp [ps, hrd]
  clear hx hrd
  go_enter Tryf.func5, Tryf.ntmps5
  go_wp2_with (go_at_call 15; go_in)
  refine (clone_any ao n cap xs w HX.out (by omega)).mono ?_
  rintro e w1 ⟨a', rfl, hnil, hb1, hlt, hbel1⟩
  go_wp2_with fail
  refine (zz_any F a' n 48 xs w1 (by rw [hbel1.tape]; exact hF) (by omega) (by omega) hb1 hlt (by omega)).mono ?_
  intro e w2 hp
  rw [HR.out] at hp
  obtain ⟨⟨p, rfl⟩, hbel2⟩ := hp
  have hb2 : Below w.heap.size w w2 := hbel1.trans (hbel2.mono hbel1.size)
  clear hb1 hlt hnil
  go_wp2_with fail
  refine (clone_any ao n cap xs w2 (byt_below HX.out hb2) (by omega)).mono ?_
  rintro e w3 ⟨a2, rfl, hnil2, y3, hlt3, bel3⟩
  have hb3 : Below w.heap.size w w3 := hb2.trans (bel3.mono hb2.size)
  go_wp2_with fail
  refine (parse_any F a2 n nm xs w3 (by rw [hb3.tape]; exact hF) y3 hlt3 (by omega)).mono ?_
  intro e w4 hp
  rw [HP.out] at hp
  obtain ⟨p4, rfl, bel4⟩ := hp
  clear y3 hlt3 hnil2
  go_wp2
  go_ret
  exact ⟨rfl, hb3.trans (bel4.mono hb3.size)⟩

set_option maxRecDepth 100000 in
set_option maxHeartbeats 1600000 in
theorem law3_left (F : Interp) (ao : Option Addr) (n cap h l : Nat) (nm : ByteArray) (xs : List Int) (w : World) (hF : F.answers w.tape) (hx : Byt w ao n cap xs) (hn : n ≤ 524288) (hm : nm.size ≤ 524288) (hrd : rd xs 48 = some (h, l)) (hne : h + l ≠ n) :
    Calls Tryf.prog 5 #[.slice ao n cap, .string nm] w fun e w' => e = .returned (.bool true) ∧ Below w.heap.size w w' := by
  have hn' : (n : Int) ≤ 524288 := by omega
  have hm' : (nm.size : Int) ≤ 524288 := by omega
  obtain ⟨r1, r2, r3⟩ := rd_le hrd
  rw [hx.1] at r2
  have HX : Hid (Byt w ao n cap xs) := hx
  have HR : Hid (rd xs 48 = some (h, l)) := hrd
  have HP : Hid (ps xs = none) := by show _ = _; simp [ps, hrd, hx.1, hne]
  clear hx hrd
  go_enter Tryf.func5, Tryf.ntmps5
  go_wp2_with (go_at_call 15; go_in)
  refine (clone_any ao n cap xs w HX.out (by omega)).mono ?_
  rintro e w1 ⟨a', rfl, hnil, hb1, hlt, hbel1⟩
  go_wp2_with fail
  refine (zz_any F a' n 48 xs w1 (by rw [hbel1.tape]; exact hF) (by omega) (by omega) hb1 hlt (by omega)).mono ?_
  intro e w2 hp
  rw [HR.out] at hp
  obtain ⟨a1, c1, a2, c2, a3, c3, rfl, z1, z2, z3, hbel2⟩ := hp
  have hb2 : Below w.heap.size w w2 := hbel1.trans (hbel2.mono hbel1.size)
  obtain ⟨k, hk⟩ : ∃ k, n - (h + l) = k := ⟨_, rfl⟩
  have hk1 : ((k : Int) != 0) = true := by simp; omega
  rw [hk]
  clear hb1 hlt hnil z1 z2 z3 hk
  go_wp2_with fail
  refine (clone_any ao n cap xs w2 (byt_below HX.out hb2) (by omega)).mono ?_
  rintro e w3 ⟨a4, rfl, hnil2, y3, hlt3, bel3⟩
  have hb3 : Below w.heap.size w w3 := hb2.trans (bel3.mono hb2.size)
  go_wp2_with fail
  refine (parse_any F a4 n nm xs w3 (by rw [hb3.tape]; exact hF) y3 hlt3 (by omega)).mono ?_
  intro e w4 hp
  rw [HP.out] at hp
  obtain ⟨p4, rfl, bel4⟩ := hp
  clear y3 hlt3 hnil2
  go_wp2
  go_ret
  exact ⟨rfl, hb3.trans (bel4.mono hb3.size)⟩

set_option maxRecDepth 100000 in
set_option maxHeartbeats 1600000 in
theorem law3_whole (F : Interp) (ao : Option Addr) (n cap h l : Nat) (nm : ByteArray) (xs : List Int) (w : World) (hF : F.answers w.tape) (hx : Byt w ao n cap xs) (hn : n ≤ 524288) (hm : nm.size ≤ 524288) (hrd : rd xs 48 = some (h, l)) (hne : h + l = n) :
    Calls Tryf.prog 5 #[.slice ao n cap, .string nm] w fun e w' => e = .returned (.bool true) ∧ Below w.heap.size w w' := by
  have hn' : (n : Int) ≤ 524288 := by omega
  have hm' : (nm.size : Int) ≤ 524288 := by omega
  have hln : l ≤ n := by omega
  have HX : Hid (Byt w ao n cap xs) := hx
  have HR : Hid (rd xs 48 = some (h, l)) := hrd
  have HP : Hid (ps xs = some (h, l)) := by show _ = _; simp [ps, hrd, hx.1, hne]
  have HW : Hid ((48 :: encL l) ++ (xs.take (h + l)).drop h = xs) := by
    show _ = _
    rw [← rd_whole hx.2.2.2.2.2 hrd, List.take_of_length_le (by rw [hx.1]; omega)]
  have HZ : Hid (n - (h + l) = 0) := by show _ = _; omega
  clear hx hrd hne
  go_enter Tryf.func5, Tryf.ntmps5
  go_wp2_with (go_at_call 15; go_in)
  refine (clone_any ao n cap xs w HX.out (by omega)).mono ?_
  rintro e w1 ⟨a', rfl, hnil, hb1, hlt, hbel1⟩
  go_wp2_with fail
  refine (zz_any F a' n 48 xs w1 (by rw [hbel1.tape]; exact hF) (by omega) (by omega) hb1 hlt (by omega)).mono ?_
  intro e w2 hp
  rw [HR.out] at hp
  obtain ⟨a1, c1, a2, c2, a3, c3, rfl, z1, z2, z3, hbel2⟩ := hp
  have hb2 : Below w.heap.size w w2 := hbel1.trans (hbel2.mono hbel1.size)
  have Z2 : Hid (Byt w2 a2 l c2 ((xs.take (h + l)).drop h)) := z2
  rw [HZ.out]
  clear hb1 hlt hnil z1 z2 z3
  go_wp2_with fail
  refine (clone_any ao n cap xs w2 (byt_below HX.out hb2) (by omega)).mono ?_
  rintro e w3 ⟨a4, rfl, hnil2, y3, hlt3, bel3⟩
  have hb3 : Below w.heap.size w w3 := hb2.trans (bel3.mono hb2.size)
  go_wp2_with fail
  refine (parse_any F a4 n nm xs w3 (by rw [hb3.tape]; exact hF) y3 hlt3 (by omega)).mono ?_
  intro e w4 hp
  rw [HP.out] at hp
  obtain ⟨br', a5, c5, rfl, hc5, y5, bel4⟩ := hp
  have b24 : Below w2.heap.size w2 w4 := bel3.trans (bel4.mono bel3.size)
  have hb4 : Below w.heap.size w w4 := hb3.trans (bel4.mono hb3.size)
  have Y5 : Hid (Byt w4 a5 l c5 ((xs.take (h + l)).drop h)) := y5
  clear y3 hlt3 hnil2 y5
  go_wp2_with fail
  refine (zzb_any br' _ w4 hc5).mono ?_
  rintro e w4' ⟨rfl, rfl⟩
  go_wp2_with fail
  refine (eq_yes _ _ _ _ _ _ _ _ _ Y5.out (byt_below Z2.out b24) rfl).mono ?_
  rintro e w5 ⟨rfl, q1, rfl⟩
  go_wp2_with fail
  refine (tlv_any 48 a5 l c5 _ _ (by omega) (by omega) (byt_drewN Y5.out) (by omega)).mono ?_
  rintro e w6 ⟨g, mm, rfl, y6, bel6⟩
  have hb6 : Below w.heap.size w w6 := (below_drewN hb4 q1).trans (bel6.mono (below_drewN hb4 q1).size)
  go_wp2_with fail
  refine (eq_yes _ _ _ _ _ _ _ _ _ y6 (byt_below HX.out hb6) HW.out).mono ?_
  rintro e w7 ⟨rfl, q2, rfl⟩
  go_wp2
  go_ret
  exact ⟨rfl, below_drewN hb6 q2⟩

/-- ████ THE LAW's WALK ████ -/
theorem law3 (F : Interp) (ao : Option Addr) (n cap : Nat) (nm : ByteArray) (xs : List Int) (w : World) (hF : F.answers w.tape) (hm : nm.size ≤ maxLen) (hx : Byt w ao n cap xs) :
    Calls Tryf.prog 5 #[.slice ao n cap, .string nm] w fun e w' => e = .returned (.bool true) ∧ Below w.heap.size w w' := by
  by_cases hn : 524288 < n ∨ 524288 < nm.size
  · exact law3_big ao n cap nm w hn (by have := hx.2.1; have := hx.2.2.1; show _ ≤ _; omega) hm
  · cases hrd : rd xs 48 with
    | none => exact law3_none F ao n cap nm xs w hF hx (by omega) (by omega) hrd
    | some r =>
      by_cases hne : r.1 + r.2 = n
      · exact law3_whole F ao n cap r.1 r.2 nm xs w hF hx (by omega) (by omega) hrd hne
      · exact law3_left F ao n cap r.1 r.2 nm xs w hF hx (by omega) (by omega) hrd hne
end Go.Proofs.Qxb6619177aFmt
