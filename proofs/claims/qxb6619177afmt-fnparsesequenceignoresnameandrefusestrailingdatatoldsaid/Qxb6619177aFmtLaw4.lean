import Derived.Test.Qxb6619177aFmtSeq
namespace Go.Proofs.Qxb6619177aFmt
open Go.RowKit Go.Extern.Stop Go.Stop Go.Extern
set_option linter.unusedVariables false
set_option linter.unusedSimpArgs false

set_option maxRecDepth 100000 in
set_option maxHeartbeats 3200000 in
theorem law4_big (ao bo : Option Addr) (n cap m cap2 : Nat) (s1 s2 : ByteArray) (w : World) (hn : 262144 < n ∨ 262144 < m ∨ 262144 < s1.size ∨ 262144 < s2.size) (hm : Hid (n ≤ 9223372036854775807)) (hm2 : Hid (m ≤ 9223372036854775807)) (hm3 : Hid (s1.size ≤ maxLen)) (hm4 : Hid (s2.size ≤ maxLen)) :
    Calls Tryf.prog 6 #[.slice ao n cap, .slice bo m cap2, .string s1, .string s2] w fun e w' => e = .returned (.bool true) ∧ Below w.heap.size w w' := by
  by_cases c0 : (1048576 : Int) < (n : Int)
  · skip
    go_enter Tryf.func6, Tryf.ntmps6
    go_wp2
    go_ret
    exact ⟨rfl, Below.refl _ _⟩
  have d0 : (n : Int) ≤ 1048576 := by omega
  clear c0
  by_cases c1 : (1048576 : Int) < (m : Int)
  · skip
    go_enter Tryf.func6, Tryf.ntmps6
    go_wp2
    go_ret
    exact ⟨rfl, Below.refl _ _⟩
  have d1 : (m : Int) ≤ 1048576 := by omega
  clear c1
  by_cases c2 : (1048576 : Int) < (n : Int) + (m : Int)
  · skip
    go_enter Tryf.func6, Tryf.ntmps6
    go_wp2
    go_ret
    exact ⟨rfl, Below.refl _ _⟩
  have d2 : (n : Int) + (m : Int) ≤ 1048576 := by omega
  clear c2
  by_cases c3 : (1048576 : Int) < (s1.size : Int)
  · skip
    go_enter Tryf.func6, Tryf.ntmps6
    go_wp2
    go_ret
    exact ⟨rfl, Below.refl _ _⟩
  have d3 : (s1.size : Int) ≤ 1048576 := by omega
  clear c3
  by_cases c4 : (1048576 : Int) < (n : Int) + (m : Int) + (s1.size : Int)
  · skip
    go_enter Tryf.func6, Tryf.ntmps6
    go_wp2
    go_ret
    exact ⟨rfl, Below.refl _ _⟩
  have d4 : (n : Int) + (m : Int) + (s1.size : Int) ≤ 1048576 := by omega
  clear c4
  by_cases c5 : (1048576 : Int) < (s2.size : Int)
  · skip
    go_enter Tryf.func6, Tryf.ntmps6
    go_wp2
    go_ret
    exact ⟨rfl, Below.refl _ _⟩
  have d5 : (s2.size : Int) ≤ 1048576 := by omega
  clear c5
  by_cases c6 : (1048576 : Int) < (n : Int) + (m : Int) + (s1.size : Int) + (s2.size : Int)
  · skip
    go_enter Tryf.func6, Tryf.ntmps6
    go_wp2
    go_ret
    exact ⟨rfl, Below.refl _ _⟩
  have d6 : (n : Int) + (m : Int) + (s1.size : Int) + (s2.size : Int) ≤ 1048576 := by omega
  clear c6
  by_cases c7 : (262144 : Int) < (n : Int)
  · skip
    go_enter Tryf.func6, Tryf.ntmps6
    go_wp2
    go_ret
    exact ⟨rfl, Below.refl _ _⟩
  have d7 : (n : Int) ≤ 262144 := by omega
  clear c7
  by_cases c8 : (262144 : Int) < (m : Int)
  · skip
    go_enter Tryf.func6, Tryf.ntmps6
    go_wp2
    go_ret
    exact ⟨rfl, Below.refl _ _⟩
  have d8 : (m : Int) ≤ 262144 := by omega
  clear c8
  by_cases c9 : (262144 : Int) < (s1.size : Int)
  · skip
    go_enter Tryf.func6, Tryf.ntmps6
    go_wp2
    go_ret
    exact ⟨rfl, Below.refl _ _⟩
  have d9 : (s1.size : Int) ≤ 262144 := by omega
  clear c9
  have d10 : (262144 : Int) < (s2.size : Int) := by omega
  go_enter Tryf.func6, Tryf.ntmps6
  go_wp2
  go_ret
  exact ⟨rfl, Below.refl _ _⟩

set_option maxRecDepth 100000 in
set_option maxHeartbeats 1600000 in
theorem law4_refA (F : Interp) (ao bo : Option Addr) (n cap m cap2 : Nat) (s1 s2 : ByteArray) (xs ys : List Int) (w : World) (hF : F.answers w.tape) (hx : Byt w ao n cap xs) (hy : Byt w bo m cap2 ys)
    (hn : n ≤ 262144) (hm : m ≤ 262144) (hs1 : s1.size ≤ 262144) (hs2 : s2.size ≤ 262144) (hp0 : ps xs = none) (hm0 : m ≠ 0) :
    Calls Tryf.prog 6 #[.slice ao n cap, .slice bo m cap2, .string s1, .string s2] w fun e w' => e = .returned (.bool true) ∧ Below w.heap.size w w' := by
  have hn' : (n : Int) ≤ 262144 := by omega
  have hm' : (m : Int) ≤ 262144 := by omega
  have hs1' : (s1.size : Int) ≤ 262144 := by omega
  have hs2' : (s2.size : Int) ≤ 262144 := by omega
  have HX : Hid (Byt w ao n cap xs) := hx
  have HY : Hid (Byt w bo m cap2 ys) := hy
  have HP : Hid (ps xs = none) := hp0
  have hm1 : ((m : Int) != 0) = true := by simp; omega
  clear hx hy hp0
  go_enter Tryf.func6, Tryf.ntmps6
  go_wp2_with (go_at_call 18; go_in)
  refine (clone_any ao n cap xs w HX.out (by omega)).mono ?_
  rintro e w1 ⟨a', rfl, hnil, hb1, hlt, hbel1⟩
  go_wp2_with fail
  refine (parse_any F a' n s1 xs w1 (by rw [hbel1.tape]; exact hF) hb1 hlt (by omega)).mono ?_
  intro e w2 hp
  rw [HP.out] at hp
  obtain ⟨p2, rfl, bel2⟩ := hp
  have hb2 : Below w.heap.size w w2 := hbel1.trans (bel2.mono hbel1.size)
  clear hb1 hlt hnil
  go_wp2_with fail
  refine (concat_any _ _ _ _ _ _ xs ys _ (byt_below HX.out hb2) (byt_below HY.out hb2) (by omega) (by omega)).mono ?_
  rintro e w3 ⟨rfl, y3, hlt3, bel3⟩
  have hb3 : Below w.heap.size w w3 := hb2.trans (bel3.mono hb2.size)
  go_wp2_with fail
  refine (parse_any F (some ⟨w2.heap.size, 0, none⟩) (n + m) s2 (xs ++ ys) w3 (by rw [hb3.tape]; exact hF) y3 (by intro x hx; obtain rfl := Option.some.inj hx; exact hlt3) (by omega)).mono ?_
  intro e w4 hp
  cases hq : ps (xs ++ ys) with
  | none =>
    rw [hq] at hp
    obtain ⟨p4, rfl, bel4⟩ := hp
    clear y3 hlt3 hq
    go_wp2
    go_ret
    exact ⟨rfl, hb3.trans (bel4.mono hb3.size)⟩
  | some r =>
    rw [hq] at hp
    obtain ⟨br4, a4, c4, rfl, hc4, y4, bel4⟩ := hp
    clear y3 hlt3 hq y4
    go_wp2
    go_ret
    exact ⟨rfl, hb3.trans (bel4.mono hb3.size)⟩

set_option maxRecDepth 100000 in
set_option maxHeartbeats 1600000 in
theorem law4_refB (F : Interp) (ao bo : Option Addr) (n cap m cap2 : Nat) (s1 s2 : ByteArray) (xs ys : List Int) (w : World) (hF : F.answers w.tape) (hx : Byt w ao n cap xs) (hy : Byt w bo m cap2 ys)
    (hn : n ≤ 262144) (hm : m ≤ 262144) (hs1 : s1.size ≤ 262144) (hs2 : s2.size ≤ 262144) (hp0 : ps xs = none) (hm0 : m ≤ 0) :
    Calls Tryf.prog 6 #[.slice ao n cap, .slice bo m cap2, .string s1, .string s2] w fun e w' => e = .returned (.bool true) ∧ Below w.heap.size w w' := by
  have hn' : (n : Int) ≤ 262144 := by omega
  have hm' : (m : Int) ≤ 262144 := by omega
  have hs1' : (s1.size : Int) ≤ 262144 := by omega
  have hs2' : (s2.size : Int) ≤ 262144 := by omega
  have HX : Hid (Byt w ao n cap xs) := hx
  have HY : Hid (Byt w bo m cap2 ys) := hy
  have HP : Hid (ps xs = none) := hp0
  have HQ : Hid (ps (xs ++ ys) = none) := by
    have : ys = [] := List.length_eq_zero_iff.1 (by rw [hy.1]; omega)
    show _ = _
    rw [this, List.append_nil]; exact hp0
  have hm1 : ((m : Int) != 0) = false := by simp; omega
  clear hx hy hp0
  go_enter Tryf.func6, Tryf.ntmps6
  go_wp2_with (go_at_call 18; go_in)
  refine (clone_any ao n cap xs w HX.out (by omega)).mono ?_
  rintro e w1 ⟨a', rfl, hnil, hb1, hlt, hbel1⟩
  go_wp2_with fail
  refine (parse_any F a' n s1 xs w1 (by rw [hbel1.tape]; exact hF) hb1 hlt (by omega)).mono ?_
  intro e w2 hp
  rw [HP.out] at hp
  obtain ⟨p2, rfl, bel2⟩ := hp
  have hb2 : Below w.heap.size w w2 := hbel1.trans (bel2.mono hbel1.size)
  clear hb1 hlt hnil
  go_wp2_with fail
  refine (concat_any _ _ _ _ _ _ xs ys _ (byt_below HX.out hb2) (byt_below HY.out hb2) (by omega) (by omega)).mono ?_
  rintro e w3 ⟨rfl, y3, hlt3, bel3⟩
  have hb3 : Below w.heap.size w w3 := hb2.trans (bel3.mono hb2.size)
  go_wp2_with fail
  refine (parse_any F (some ⟨w2.heap.size, 0, none⟩) (n + m) s2 (xs ++ ys) w3 (by rw [hb3.tape]; exact hF) y3 (by intro x hx; obtain rfl := Option.some.inj hx; exact hlt3) (by omega)).mono ?_
  intro e w4 hp
  rw [HQ.out] at hp
  obtain ⟨p4, rfl, bel4⟩ := hp
  clear y3 hlt3
  go_wp2
  go_ret
  exact ⟨rfl, hb3.trans (bel4.mono hb3.size)⟩

theorem ps_open {xs : List Int} {h l : Nat} (hp : ps xs = some (h, l)) : rd xs 48 = some (h, l) ∧ h + l = xs.length := by
  unfold ps at hp
  split at hp
  · rename_i h' l' hr
    split at hp
    · simp only [Option.some.injEq, Prod.mk.injEq] at hp
      obtain ⟨rfl, rfl⟩ := hp
      exact ⟨hr, by omega⟩
    · cases hp
  · cases hp

set_option maxRecDepth 100000 in
set_option maxHeartbeats 1600000 in
theorem law4_okA (F : Interp) (ao bo : Option Addr) (n cap m cap2 h l : Nat) (s1 s2 : ByteArray) (xs ys : List Int) (w : World) (hF : F.answers w.tape) (hx : Byt w ao n cap xs) (hy : Byt w bo m cap2 ys)
    (hn : n ≤ 262144) (hm : m ≤ 262144) (hs1 : s1.size ≤ 262144) (hs2 : s2.size ≤ 262144) (hp0 : ps xs = some (h, l)) (hm0 : m ≠ 0) :
    Calls Tryf.prog 6 #[.slice ao n cap, .slice bo m cap2, .string s1, .string s2] w fun e w' => e = .returned (.bool true) ∧ Below w.heap.size w w' := by
  have hn' : (n : Int) ≤ 262144 := by omega
  have hm' : (m : Int) ≤ 262144 := by omega
  have hs1' : (s1.size : Int) ≤ 262144 := by omega
  have hs2' : (s2.size : Int) ≤ 262144 := by omega
  have HX : Hid (Byt w ao n cap xs) := hx
  have HY : Hid (Byt w bo m cap2 ys) := hy
  have HP : Hid (ps xs = some (h, l)) := hp0
  obtain ⟨hrd, hhl⟩ := ps_open hp0
  rw [hx.1] at hhl
  have hln : l ≤ n := by omega
  have HW : Hid ((48 :: encL l) ++ (xs.take (h + l)).drop h = xs) := by
    show _ = _
    rw [← rd_whole hx.2.2.2.2.2 hrd, List.take_of_length_le (by rw [hx.1]; omega)]
  have HQ : Hid (ps (xs ++ ys) = none) := by
    show _ = _
    unfold ps
    rw [rd_append ys hrd]
    simp only
    rw [if_neg (by rw [List.length_append, hx.1, hy.1]; omega)]
  have hm1 : ((m : Int) == 0) = false := by simp; omega
  clear hx hy hp0 hrd hhl
  go_enter Tryf.func6, Tryf.ntmps6
  go_wp2_with (go_at_call 18; go_in)
  refine (clone_any ao n cap xs w HX.out (by omega)).mono ?_
  rintro e w1 ⟨a', rfl, hnil, hb1, hlt, hbel1⟩
  go_wp2_with fail
  refine (parse_any F a' n s1 xs w1 (by rw [hbel1.tape]; exact hF) hb1 hlt (by omega)).mono ?_
  intro e w2 hp
  rw [HP.out] at hp
  obtain ⟨br', a5, c5, rfl, hc5, y5, bel2⟩ := hp
  have Y5 : Hid (Byt w2 a5 l c5 ((xs.take (h + l)).drop h)) := y5
  clear y5
  have hb2 : Below w.heap.size w w2 := hbel1.trans (bel2.mono hbel1.size)
  clear hb1 hlt hnil
  go_wp2_with fail
  refine (concat_any _ _ _ _ _ _ xs ys _ (byt_below HX.out hb2) (byt_below HY.out hb2) (by omega) (by omega)).mono ?_
  rintro e w3 ⟨rfl, y3, hlt3, bel3⟩
  have hb3 : Below w.heap.size w w3 := hb2.trans (bel3.mono hb2.size)
  go_wp2_with fail
  refine (parse_any F (some ⟨w2.heap.size, 0, none⟩) (n + m) s2 (xs ++ ys) w3 (by rw [hb3.tape]; exact hF) y3 (by intro x hx; obtain rfl := Option.some.inj hx; exact hlt3) (by omega)).mono ?_
  intro e w4 hp
  rw [HQ.out] at hp
  obtain ⟨p4, rfl, bel4⟩ := hp
  have b24 : Below w2.heap.size w2 w4 := bel3.trans (bel4.mono bel3.size)
  have hb4 : Below w.heap.size w w4 := hb3.trans (bel4.mono hb3.size)
  have hc5' : w4.cell? ⟨br', 0, none⟩ = some (.slice a5 l c5) := by rw [b24.cell (lt_of_cell hc5), hc5]
  clear y3 hlt3
  go_wp2_with fail
  refine (zzb_any br' _ w4 hc5').mono ?_
  rintro e w4' ⟨rfl, rfl⟩
  go_wp2_with fail
  refine (tlv_any 48 a5 l c5 _ _ (by omega) (by omega) (byt_below Y5.out b24) (by omega)).mono ?_
  rintro e w6 ⟨g, mm, rfl, y6, bel6⟩
  have hb6 : Below w.heap.size w w6 := hb4.trans (bel6.mono hb4.size)
  go_wp2_with fail
  refine (eq_yes _ _ _ _ _ _ _ _ _ y6 (byt_below HX.out hb6) HW.out).mono ?_
  rintro e w7 ⟨rfl, q2, rfl⟩
  clear y6
  go_wp2
  go_ret
  exact ⟨rfl, below_drewN hb6 q2⟩

set_option maxRecDepth 100000 in
set_option maxHeartbeats 1600000 in
theorem law4_okB (F : Interp) (ao bo : Option Addr) (n cap m cap2 h l : Nat) (s1 s2 : ByteArray) (xs ys : List Int) (w : World) (hF : F.answers w.tape) (hx : Byt w ao n cap xs) (hy : Byt w bo m cap2 ys)
    (hn : n ≤ 262144) (hm : m ≤ 262144) (hs1 : s1.size ≤ 262144) (hs2 : s2.size ≤ 262144) (hp0 : ps xs = some (h, l)) (hm0 : m ≤ 0) :
    Calls Tryf.prog 6 #[.slice ao n cap, .slice bo m cap2, .string s1, .string s2] w fun e w' => e = .returned (.bool true) ∧ Below w.heap.size w w' := by
  have hn' : (n : Int) ≤ 262144 := by omega
  have hm' : (m : Int) ≤ 262144 := by omega
  have hs1' : (s1.size : Int) ≤ 262144 := by omega
  have hs2' : (s2.size : Int) ≤ 262144 := by omega
  have HX : Hid (Byt w ao n cap xs) := hx
  have HY : Hid (Byt w bo m cap2 ys) := hy
  have HP : Hid (ps xs = some (h, l)) := hp0
  obtain ⟨hrd, hhl⟩ := ps_open hp0
  rw [hx.1] at hhl
  have hln : l ≤ n := by omega
  have HW : Hid ((48 :: encL l) ++ (xs.take (h + l)).drop h = xs) := by
    show _ = _
    rw [← rd_whole hx.2.2.2.2.2 hrd, List.take_of_length_le (by rw [hx.1]; omega)]
  have HYN : Hid (ys = []) := List.length_eq_zero_iff.1 (by rw [hy.1]; omega)
  have HQ : Hid (ps (xs ++ ys) = some (h, l)) := by
    show _ = _
    rw [HYN.out, List.append_nil]; exact hp0
  have hm1 : ((m : Int) == 0) = true := by simp; omega
  clear hx hy hp0 hrd hhl
  go_enter Tryf.func6, Tryf.ntmps6
  go_wp2_with (go_at_call 18; go_in)
  refine (clone_any ao n cap xs w HX.out (by omega)).mono ?_
  rintro e w1 ⟨a', rfl, hnil, hb1, hlt, hbel1⟩
  go_wp2_with fail
  refine (parse_any F a' n s1 xs w1 (by rw [hbel1.tape]; exact hF) hb1 hlt (by omega)).mono ?_
  intro e w2 hp
  rw [HP.out] at hp
  obtain ⟨br', a5, c5, rfl, hc5, y5, bel2⟩ := hp
  have Y5 : Hid (Byt w2 a5 l c5 ((xs.take (h + l)).drop h)) := y5
  clear y5
  have hb2 : Below w.heap.size w w2 := hbel1.trans (bel2.mono hbel1.size)
  clear hb1 hlt hnil
  go_wp2_with fail
  refine (concat_any _ _ _ _ _ _ xs ys _ (byt_below HX.out hb2) (byt_below HY.out hb2) (by omega) (by omega)).mono ?_
  rintro e w3 ⟨rfl, y3, hlt3, bel3⟩
  have hb3 : Below w.heap.size w w3 := hb2.trans (bel3.mono hb2.size)
  go_wp2_with fail
  refine (parse_any F (some ⟨w2.heap.size, 0, none⟩) (n + m) s2 (xs ++ ys) w3 (by rw [hb3.tape]; exact hF) y3 (by intro x hx; obtain rfl := Option.some.inj hx; exact hlt3) (by omega)).mono ?_
  intro e w4 hp
  rw [HQ.out] at hp
  obtain ⟨br4, a4, c4, rfl, hc4, y4, bel4⟩ := hp
  rw [HYN.out, List.append_nil] at y4
  have Y4 : Hid (Byt w4 a4 l c4 ((xs.take (h + l)).drop h)) := y4
  have b24 : Below w2.heap.size w2 w4 := bel3.trans (bel4.mono bel3.size)
  have hb4 : Below w.heap.size w w4 := hb3.trans (bel4.mono hb3.size)
  clear y4
  have hc5' : w4.cell? ⟨br', 0, none⟩ = some (.slice a5 l c5) := by rw [b24.cell (lt_of_cell hc5), hc5]
  clear y3 hlt3
  go_wp2_with fail
  refine (zzb_any br' _ w4 hc5').mono ?_
  rintro e w4' ⟨rfl, rfl⟩
  go_wp2_with fail
  refine (tlv_any 48 a5 l c5 _ _ (by omega) (by omega) (byt_below Y5.out b24) (by omega)).mono ?_
  rintro e w6 ⟨g, mm, rfl, y6, bel6⟩
  have hb6 : Below w.heap.size w w6 := hb4.trans (bel6.mono hb4.size)
  go_wp2_with fail
  refine (eq_yes _ _ _ _ _ _ _ _ _ y6 (byt_below HX.out hb6) HW.out).mono ?_
  rintro e w7 ⟨rfl, q2, rfl⟩
  clear y6
  have b47 : Below w4'.heap.size w4' (w6.drewN q2) := below_drewN bel6 q2
  have hc4' : (w6.drewN q2).cell? ⟨br4, 0, none⟩ = some (.slice a4 l c4) := by rw [b47.cell (lt_of_cell hc4), hc4]
  go_wp2_with fail
  refine (zzb_any br4 _ _ hc4').mono ?_
  rintro e w8 ⟨rfl, rfl⟩
  go_wp2_with fail
  refine (eq_yes _ _ _ _ _ _ _ _ _ (byt_below Y4.out b47) (byt_below (byt_below Y5.out b24) b47) rfl).mono ?_
  rintro e w9 ⟨rfl, q3, rfl⟩
  go_wp2
  go_ret
  exact ⟨rfl, by first | exact below_drewN hb6 _ | exact below_drewN (below_drewN hb6 _) _⟩

/-- ████ THE LAW's WALK ████ -/
theorem law4 (F : Interp) (ao bo : Option Addr) (n cap m cap2 : Nat) (s1 s2 : ByteArray) (xs ys : List Int) (w : World) (hF : F.answers w.tape) (hs1 : s1.size ≤ maxLen) (hs2 : s2.size ≤ maxLen) (hx : Byt w ao n cap xs) (hy : Byt w bo m cap2 ys) :
    Calls Tryf.prog 6 #[.slice ao n cap, .slice bo m cap2, .string s1, .string s2] w fun e w' => e = .returned (.bool true) ∧ Below w.heap.size w w' := by
  by_cases hn : 262144 < n ∨ 262144 < m ∨ 262144 < s1.size ∨ 262144 < s2.size
  · exact law4_big ao bo n cap m cap2 s1 s2 w hn (by have := hx.2.1; have := hx.2.2.1; show _ ≤ _; omega) (by have := hy.2.1; have := hy.2.2.1; show _ ≤ _; omega) hs1 hs2
  · cases hp : ps xs with
    | none =>
      by_cases hm : m ≤ 0
      · exact law4_refB F ao bo n cap m cap2 s1 s2 xs ys w hF hx hy (by omega) (by omega) (by omega) (by omega) hp hm
      · exact law4_refA F ao bo n cap m cap2 s1 s2 xs ys w hF hx hy (by omega) (by omega) (by omega) (by omega) hp (by omega)
    | some r =>
      by_cases hm : m ≤ 0
      · exact law4_okB F ao bo n cap m cap2 r.1 r.2 s1 s2 xs ys w hF hx hy (by omega) (by omega) (by omega) (by omega) hp hm
      · exact law4_okA F ao bo n cap m cap2 r.1 r.2 s1 s2 xs ys w hF hx hy (by omega) (by omega) (by omega) (by omega) hp (by omega)
end Go.Proofs.Qxb6619177aFmt
