import Derived.Test.Qxb6619177aFmtTlv
namespace Go.Proofs.Qxb6619177aFmt
open Go.RowKit Go.Extern.Stop Go.Stop Go.Extern
set_option linter.unusedVariables false
set_option linter.unusedSimpArgs false

set_option maxRecDepth 100000 in
set_option maxHeartbeats 1600000 in
theorem law2_big (ao bo : Option Addr) (n cap m cap2 : Nat) (t : Int) (w : World) (hn : 524288 < n ∨ 524288 < m) (hm : Hid (n ≤ 9223372036854775807)) (hm2 : Hid (m ≤ 9223372036854775807)) :
    Calls Tryf.prog 4 #[.slice ao n cap, .slice bo m cap2, .int .u8 t] w fun e w' => e = .returned (.bool true) ∧ Below w.heap.size w w' := by
  by_cases c1 : 1048576 < n
  · have c1' : (1048576 : Int) < (n : Int) := by omega
    go_enter Tryf.func4, Tryf.ntmps4
    go_wp2
    go_ret
    exact ⟨rfl, Below.refl _ _⟩
  have c1' : (n : Int) ≤ 1048576 := by omega
  by_cases c2 : 1048576 < m
  · have c2' : (1048576 : Int) < (m : Int) := by omega
    go_enter Tryf.func4, Tryf.ntmps4
    go_wp2
    go_ret
    exact ⟨rfl, Below.refl _ _⟩
  have c2' : (m : Int) ≤ 1048576 := by omega
  by_cases c3 : 1048576 < n + m
  · have c3' : (1048576 : Int) < (n : Int) + (m : Int) := by omega
    go_enter Tryf.func4, Tryf.ntmps4
    go_wp2
    go_ret
    exact ⟨rfl, Below.refl _ _⟩
  have c3' : (n : Int) + (m : Int) ≤ 1048576 := by omega
  by_cases c4 : 524288 < n
  · have c4' : (524288 : Int) < (n : Int) := by omega
    go_enter Tryf.func4, Tryf.ntmps4
    go_wp2
    go_ret
    exact ⟨rfl, Below.refl _ _⟩
  · have c4' : (n : Int) ≤ 524288 := by omega
    have c5' : (524288 : Int) < (m : Int) := by omega
    go_enter Tryf.func4, Tryf.ntmps4
    go_wp2
    go_ret
    exact ⟨rfl, Below.refl _ _⟩

set_option maxRecDepth 100000 in
set_option maxHeartbeats 1600000 in
theorem law2_none (F : Interp) (ao bo : Option Addr) (n cap m cap2 : Nat) (t : Int) (xs : List Int) (w : World) (hF : F.answers w.tape) (h0 : 0 ≤ t) (h1 : t ≤ 255) (hx : Byt w ao n cap xs) (hn : n ≤ 524288) (hm : m ≤ 524288) (hrd : rd xs t = none) :
    Calls Tryf.prog 4 #[.slice ao n cap, .slice bo m cap2, .int .u8 t] w fun e w' => e = .returned (.bool true) ∧ Below w.heap.size w w' := by
  have hn' : (n : Int) ≤ 524288 := by omega
  have hm' : (m : Int) ≤ 524288 := by omega
  have HX : Hid (Byt w ao n cap xs) := hx
  have HR : Hid (rd xs t = none) := hrd
  clear hx hrd
  go_enter Tryf.func4, Tryf.ntmps4
  go_wp2_with (go_at_call 12; go_in)
  refine (clone_any ao n cap xs w HX.out (by omega)).mono ?_
  rintro e w1 ⟨a', rfl, hnil, hb1, hlt, hbel1⟩
  go_wp2_with fail
  refine (zz_any F a' n t xs w1 (by rw [hbel1.tape]; exact hF) h0 h1 hb1 hlt (by omega)).mono ?_
  intro e w2 hp
  rw [HR.out] at hp
  obtain ⟨⟨p, rfl⟩, hbel2⟩ := hp
  have hbel12 : Below w.heap.size w w2 := hbel1.trans (hbel2.mono hbel1.size)
  have y1 : Hid (Byt w2 a' n n xs) := byt_below hb1 hbel2
  have y2 : Hid (Byt w2 ao n cap xs) := byt_below HX.out hbel12
  have q1 := fun wx => Lib.run_eql_slice_nil (P := Tryf.prog) wx 22 5 none 0 0 0 0 Tryf.underlying22
  clear hb1 hlt
  go_wp2_with fail
  refine (eq_yes _ _ _ _ _ _ xs xs _ y1.out y2.out rfl).mono ?_
  rintro e w4 ⟨rfl, q, rfl⟩
  go_wp2
  go_ret
  exact ⟨rfl, below_drewN hbel12 q⟩

set_option maxRecDepth 100000 in
set_option maxHeartbeats 3200000 in
theorem law2_some (F : Interp) (ao bo : Option Addr) (n cap m cap2 h l : Nat) (t : Int) (xs ys : List Int) (w : World) (hF : F.answers w.tape) (h0 : 0 ≤ t) (h1 : t ≤ 255) (hx : Byt w ao n cap xs) (hy : Byt w bo m cap2 ys) (hn : n ≤ 524288) (hm : m ≤ 524288) (hrd : rd xs t = some (h, l)) :
    Calls Tryf.prog 4 #[.slice ao n cap, .slice bo m cap2, .int .u8 t] w fun e w' => e = .returned (.bool true) ∧ Below w.heap.size w w' := by
  have hn' : (n : Int) ≤ 524288 := by omega
  have hm' : (m : Int) ≤ 524288 := by omega
  have HX : Hid (Byt w ao n cap xs) := hx
  have HY : Hid (Byt w bo m cap2 ys) := hy
  have HR : Hid (rd xs t = some (h, l)) := hrd
  have HR2 : Hid (rd (xs ++ ys) t = some (h, l)) := rd_append ys hrd
  have HW : Hid (xs.take (h + l) = (t :: encL l) ++ (xs.take (h + l)).drop h) := rd_whole hx.2.2.2.2.2 hrd
  obtain ⟨r1, r2, r3⟩ := rd_le hrd
  have hxl := hx.1
  have E1 : Hid ((xs ++ ys).take (h + l) = xs.take (h + l)) := by show _ = _; rw [List.take_append_of_le_length r2]
  have E2 : Hid ((xs ++ ys).drop (h + l) = xs.drop (h + l) ++ ys) := by show _ = _; rw [List.drop_append_of_le_length r2]
  rw [hxl] at r2
  clear hx hy hrd hxl
  go_enter Tryf.func4, Tryf.ntmps4
  go_wp2_with (go_at_call 12; go_in)
  refine (clone_any ao n cap xs w HX.out (by omega)).mono ?_
  rintro e w1 ⟨a', rfl, hnil, hb1, hlt, hbel1⟩
  clear hnil
  go_wp2_with fail
  refine (zz_any F a' n t xs w1 (by rw [hbel1.tape]; exact hF) h0 h1 hb1 hlt (by omega)).mono ?_
  intro e w2 hp
  rw [HR.out] at hp
  obtain ⟨a1, c1, a2, c2, a3, c3, rfl, z1, z2, z3, hbel2⟩ := hp
  have hb2 : Below w.heap.size w w2 := hbel1.trans (hbel2.mono hbel1.size)
  have Z1 : Hid (Byt w2 a1 (h + l) c1 (xs.take (h + l))) := z1
  have Z2 : Hid (Byt w2 a2 l c2 ((xs.take (h + l)).drop h)) := z2
  have Z3 : Hid (Byt w2 a3 (n - (h + l)) c3 (xs.drop (h + l))) := z3
  clear z1 z2 z3 hb1 hlt
  go_wp2_with fail
  refine (tlv_any t a2 l c2 _ w2 h0 h1 Z2.out (by omega)).mono ?_
  rintro e w3 ⟨g, mm, rfl, y3, bel3⟩
  have hb3 : Below w.heap.size w w3 := hb2.trans (bel3.mono hb2.size)
  go_wp2_with fail
  refine (eq_yes _ _ _ _ _ _ _ _ _ (byt_below Z1.out bel3) y3 HW.out).mono ?_
  rintro e w4 ⟨rfl, q1, rfl⟩
  have bel4 : Below w2.heap.size w2 (w3.drewN q1) := below_drewN bel3 q1
  have hb4 : Below w.heap.size w (w3.drewN q1) := below_drewN hb3 q1
  clear y3
  go_wp2_with fail
  refine (concat_any _ _ _ _ _ _ _ _ _ (byt_below Z1.out bel4) (byt_below Z3.out bel4) (by omega) (by omega)).mono ?_
  rintro e w5 ⟨rfl, y5, _, bel5⟩
  have b25 : Below w2.heap.size w2 w5 := bel4.trans (bel5.mono bel4.size)
  have hb5 : Below w.heap.size w w5 := hb4.trans (bel5.mono hb4.size)
  have y5' : Byt w5 (some ⟨w3.heap.size, 0, none⟩) n n xs := by
    have e : h + l + (n - (h + l)) = n := by omega
    rw [e, List.take_append_drop] at y5
    exact y5
  go_wp2_with fail
  refine (eq_yes _ _ _ _ _ _ xs xs _ y5' (byt_below HX.out hb5) rfl).mono ?_
  rintro e w6 ⟨rfl, q2, rfl⟩
  have b26 : Below w2.heap.size w2 (w5.drewN q2) := below_drewN b25 q2
  have hb6 : Below w.heap.size w (w5.drewN q2) := below_drewN hb5 q2
  clear y5 y5'
  go_wp2_with fail
  refine (concat_any _ _ _ _ _ _ xs ys _ (byt_below HX.out hb6) (byt_below HY.out hb6) (by omega) (by omega)).mono ?_
  rintro e w7 ⟨rfl, y7, hlt7, bel7⟩
  have y7' : Byt w7 (some ⟨w5.heap.size, 0, none⟩) (n + m) (n + m) (xs ++ ys) := y7
  have hlt7' : w5.heap.size < w7.heap.size := hlt7
  have b27 : Below w2.heap.size w2 w7 := b26.trans (bel7.mono b26.size)
  have hb7 : Below w.heap.size w w7 := hb6.trans (bel7.mono hb6.size)
  go_wp2_with fail
  refine (zz_any F (some ⟨w5.heap.size, 0, none⟩) (n + m) t (xs ++ ys) w7 (by rw [hb7.tape]; exact hF) h0 h1 y7' (by intro x hx; obtain rfl := Option.some.inj hx; exact hlt7') (by omega)).mono ?_
  intro e w8 hp
  rw [HR2.out] at hp
  obtain ⟨a4, c4, a5, c5, a6, c6, rfl, z4, z5, z6, bel8⟩ := hp
  have b28 : Below w2.heap.size w2 w8 := b27.trans (bel8.mono b27.size)
  have hb8 : Below w.heap.size w w8 := hb7.trans (bel8.mono hb7.size)
  rw [E1.out] at z4 z5
  rw [E2.out] at z6
  have Z4 : Hid (Byt w8 a4 (h + l) c4 (xs.take (h + l))) := z4
  have Z5 : Hid (Byt w8 a5 l c5 ((xs.take (h + l)).drop h)) := z5
  have Z6 : Hid (Byt w8 a6 (n + m - (h + l)) c6 (xs.drop (h + l) ++ ys)) := z6
  clear z4 z5 z6 y7 hlt7 y7' hlt7'
  go_wp2_with fail
  refine (eq_yes _ _ _ _ _ _ _ _ _ Z4.out (byt_below Z1.out b28) rfl).mono ?_
  rintro e w9 ⟨rfl, q3, rfl⟩
  go_wp2_with fail
  refine (eq_yes _ _ _ _ _ _ _ _ _ (byt_drewN Z5.out) (byt_drewN (byt_below Z2.out b28)) rfl).mono ?_
  rintro e w10 ⟨rfl, q4, rfl⟩
  go_wp2_with fail
  refine (concat_any _ _ _ _ _ _ _ _ _ (byt_drewN (byt_below Z3.out b28)) (byt_drewN (byt_below HY.out hb8)) (by omega) (by omega)).mono ?_
  rintro e w11 ⟨rfl, y11, _, bel11⟩
  have y11' : Byt w11 (some ⟨w8.heap.size, 0, none⟩) (n - (h + l) + m) (n - (h + l) + m) (xs.drop (h + l) ++ ys) := y11
  go_wp2_with fail
  refine (eq_yes _ _ _ _ _ _ _ _ _ (byt_below (byt_drewN Z6.out) bel11) y11' rfl).mono ?_
  rintro e w12 ⟨rfl, q5, rfl⟩
  go_wp2
  go_ret
  exact ⟨rfl, below_drewN ((below_drewN hb8 _).trans (bel11.mono (below_drewN hb8 _).size)) _⟩

/-- ████ THE LAW's WALK ████ -/
theorem law2 (F : Interp) (ao bo : Option Addr) (n cap m cap2 : Nat) (t : Int) (xs ys : List Int) (w : World) (hF : F.answers w.tape) (h0 : 0 ≤ t) (h1 : t ≤ 255) (hx : Byt w ao n cap xs) (hy : Byt w bo m cap2 ys) :
    Calls Tryf.prog 4 #[.slice ao n cap, .slice bo m cap2, .int .u8 t] w fun e w' => e = .returned (.bool true) ∧ Below w.heap.size w w' := by
  by_cases hn : 524288 < n ∨ 524288 < m
  · exact law2_big ao bo n cap m cap2 t w hn (by have := hx.2.1; have := hx.2.2.1; show _ ≤ _; omega) (by have := hy.2.1; have := hy.2.2.1; show _ ≤ _; omega)
  · cases hrd : rd xs t with
    | none => exact law2_none F ao bo n cap m cap2 t xs w hF h0 h1 hx (by omega) (by omega) hrd
    | some r => exact law2_some F ao bo n cap m cap2 r.1 r.2 t xs ys w hF h0 h1 hx hy (by omega) (by omega) hrd
end Go.Proofs.Qxb6619177aFmt
