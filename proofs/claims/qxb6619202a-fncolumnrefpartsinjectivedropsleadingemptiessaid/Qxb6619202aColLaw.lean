import Derived.Test.Qxb6619202aColWalks
namespace Go.Proofs.Qxb6619202a
open Go.RowKit
set_option linter.unusedVariables false
set_option linter.unusedSimpArgs false

theorem pt_len (d t n : ByteArray) : (pt d t n).length ≤ 3 := by
  unfold pt
  split
  · simp
  · split <;> simp

theorem empty_of {a : ByteArray} (h : a.toList.isEmpty = true) : a = ByteArray.empty := list_inj (by simpa using h)

/-- THE PLAIN LAW: the parts tell the reference. -/
theorem pt_inj {d t n d' t' n' : ByteArray} (h : pt d t n = pt d' t' n') : d = d' ∧ t = t' ∧ n = n' := by
  cases hd : d.toList.isEmpty <;> cases hd' : d'.toList.isEmpty
  · rw [pt3 t n hd, pt3 t' n' hd'] at h
    simpa using h
  · rw [pt3 t n hd] at h
    have := congrArg List.length h
    cases ht' : t'.toList.isEmpty
    · rw [pt2 n' hd' ht'] at this; simp at this
    · rw [pt1 n' hd' ht'] at this; simp at this
  · rw [pt3 t' n' hd'] at h
    have := congrArg List.length h
    cases ht : t.toList.isEmpty
    · rw [pt2 n hd ht] at this; simp at this
    · rw [pt1 n hd ht] at this; simp at this
  · have e1 := empty_of hd
    have e2 := empty_of hd'
    cases ht : t.toList.isEmpty <;> cases ht' : t'.toList.isEmpty
    · rw [pt2 n hd ht, pt2 n' hd' ht'] at h
      simp at h
      exact ⟨e1.trans e2.symm, h.1, h.2⟩
    · rw [pt2 n hd ht, pt1 n' hd' ht'] at h; simp at h
    · rw [pt1 n hd ht, pt2 n' hd' ht'] at h; simp at h
    · rw [pt1 n hd ht, pt1 n' hd' ht'] at h
      simp at h
      exact ⟨e1.trans e2.symm, (empty_of ht).trans (empty_of ht').symm, h⟩

set_option maxRecDepth 100000 in
set_option maxHeartbeats 6400000 in
theorem col_big (a0 a1 a2 a3 a4 a5 : ByteArray) (w : World) (hn : 131072 < a0.size ∨ 131072 < a1.size ∨ 131072 < a2.size ∨ 131072 < a3.size ∨ 131072 < a4.size ∨ 131072 < a5.size) (m0 : Hid (a0.size ≤ maxLen)) (m1 : Hid (a1.size ≤ maxLen)) (m2 : Hid (a2.size ≤ maxLen)) (m3 : Hid (a3.size ≤ maxLen)) (m4 : Hid (a4.size ≤ maxLen)) (m5 : Hid (a5.size ≤ maxLen)) :
    Calls Try.prog 4 #[.string a0, .string a1, .string a2, .string a3, .string a4, .string a5] w fun e w' => e = .returned (.bool true) ∧ Below w.heap.size w w' := by
  by_cases c0 : (1048576 : Int) < (a0.size : Int)
  · skip
    go_enter Try.func4, Try.ntmps4
    go_wp2
    go_ret
    exact ⟨rfl, Below.refl _ _⟩
  have d0 : (a0.size : Int) ≤ 1048576 := by omega
  clear c0
  by_cases c1 : (1048576 : Int) < (a1.size : Int)
  · skip
    go_enter Try.func4, Try.ntmps4
    go_wp2
    go_ret
    exact ⟨rfl, Below.refl _ _⟩
  have d1 : (a1.size : Int) ≤ 1048576 := by omega
  clear c1
  by_cases c2 : (1048576 : Int) < (a0.size : Int) + (a1.size : Int)
  · skip
    go_enter Try.func4, Try.ntmps4
    go_wp2
    go_ret
    exact ⟨rfl, Below.refl _ _⟩
  have d2 : (a0.size : Int) + (a1.size : Int) ≤ 1048576 := by omega
  clear c2
  by_cases c3 : (1048576 : Int) < (a2.size : Int)
  · skip
    go_enter Try.func4, Try.ntmps4
    go_wp2
    go_ret
    exact ⟨rfl, Below.refl _ _⟩
  have d3 : (a2.size : Int) ≤ 1048576 := by omega
  clear c3
  by_cases c4 : (1048576 : Int) < (a0.size : Int) + (a1.size : Int) + (a2.size : Int)
  · skip
    go_enter Try.func4, Try.ntmps4
    go_wp2
    go_ret
    exact ⟨rfl, Below.refl _ _⟩
  have d4 : (a0.size : Int) + (a1.size : Int) + (a2.size : Int) ≤ 1048576 := by omega
  clear c4
  by_cases c5 : (1048576 : Int) < (a3.size : Int)
  · skip
    go_enter Try.func4, Try.ntmps4
    go_wp2
    go_ret
    exact ⟨rfl, Below.refl _ _⟩
  have d5 : (a3.size : Int) ≤ 1048576 := by omega
  clear c5
  by_cases c6 : (1048576 : Int) < (a0.size : Int) + (a1.size : Int) + (a2.size : Int) + (a3.size : Int)
  · skip
    go_enter Try.func4, Try.ntmps4
    go_wp2
    go_ret
    exact ⟨rfl, Below.refl _ _⟩
  have d6 : (a0.size : Int) + (a1.size : Int) + (a2.size : Int) + (a3.size : Int) ≤ 1048576 := by omega
  clear c6
  by_cases c7 : (1048576 : Int) < (a4.size : Int)
  · skip
    go_enter Try.func4, Try.ntmps4
    go_wp2
    go_ret
    exact ⟨rfl, Below.refl _ _⟩
  have d7 : (a4.size : Int) ≤ 1048576 := by omega
  clear c7
  by_cases c8 : (1048576 : Int) < (a0.size : Int) + (a1.size : Int) + (a2.size : Int) + (a3.size : Int) + (a4.size : Int)
  · skip
    go_enter Try.func4, Try.ntmps4
    go_wp2
    go_ret
    exact ⟨rfl, Below.refl _ _⟩
  have d8 : (a0.size : Int) + (a1.size : Int) + (a2.size : Int) + (a3.size : Int) + (a4.size : Int) ≤ 1048576 := by omega
  clear c8
  by_cases c9 : (1048576 : Int) < (a5.size : Int)
  · skip
    go_enter Try.func4, Try.ntmps4
    go_wp2
    go_ret
    exact ⟨rfl, Below.refl _ _⟩
  have d9 : (a5.size : Int) ≤ 1048576 := by omega
  clear c9
  by_cases c10 : (1048576 : Int) < (a0.size : Int) + (a1.size : Int) + (a2.size : Int) + (a3.size : Int) + (a4.size : Int) + (a5.size : Int)
  · skip
    go_enter Try.func4, Try.ntmps4
    go_wp2
    go_ret
    exact ⟨rfl, Below.refl _ _⟩
  have d10 : (a0.size : Int) + (a1.size : Int) + (a2.size : Int) + (a3.size : Int) + (a4.size : Int) + (a5.size : Int) ≤ 1048576 := by omega
  clear c10
  by_cases c11 : (131072 : Int) < (a0.size : Int)
  · skip
    go_enter Try.func4, Try.ntmps4
    go_wp2
    go_ret
    exact ⟨rfl, Below.refl _ _⟩
  have d11 : (a0.size : Int) ≤ 131072 := by omega
  clear c11
  by_cases c12 : (131072 : Int) < (a1.size : Int)
  · skip
    go_enter Try.func4, Try.ntmps4
    go_wp2
    go_ret
    exact ⟨rfl, Below.refl _ _⟩
  have d12 : (a1.size : Int) ≤ 131072 := by omega
  clear c12
  by_cases c13 : (131072 : Int) < (a2.size : Int)
  · skip
    go_enter Try.func4, Try.ntmps4
    go_wp2
    go_ret
    exact ⟨rfl, Below.refl _ _⟩
  have d13 : (a2.size : Int) ≤ 131072 := by omega
  clear c13
  by_cases c14 : (131072 : Int) < (a3.size : Int)
  · skip
    go_enter Try.func4, Try.ntmps4
    go_wp2
    go_ret
    exact ⟨rfl, Below.refl _ _⟩
  have d14 : (a3.size : Int) ≤ 131072 := by omega
  clear c14
  by_cases c15 : (131072 : Int) < (a4.size : Int)
  · skip
    go_enter Try.func4, Try.ntmps4
    go_wp2
    go_ret
    exact ⟨rfl, Below.refl _ _⟩
  have d15 : (a4.size : Int) ≤ 131072 := by omega
  clear c15
  have dl : (131072 : Int) < (a5.size : Int) := by omega
  go_enter Try.func4, Try.ntmps4
  go_wp2
  go_ret
  exact ⟨rfl, Below.refl _ _⟩

set_option maxRecDepth 100000 in
set_option maxHeartbeats 3200000 in
theorem col_same (a0 a1 a2 : ByteArray) (w : World) (k0 : a0.size ≤ 131072) (k1 : a1.size ≤ 131072) (k2 : a2.size ≤ 131072)  :
    Calls Try.prog 4 #[.string a0, .string a1, .string a2, .string a0, .string a1, .string a2] w fun e w' => e = .returned (.bool true) ∧ Below w.heap.size w w' := by
  have j0 : (a0.size : Int) ≤ 131072 := by omega
  have j1 : (a1.size : Int) ≤ 131072 := by omega
  have j2 : (a2.size : Int) ≤ 131072 := by omega
  go_enter Try.func4, Try.ntmps4
  go_wp2_with (go_at_call 9; go_in)
  refine (zzp_any a0 a1 a2 w).mono ?_
  rintro e w1 ⟨g1, o1, c1, rfl, x1, b1⟩
  have X1 : Hid (Sts w1 g1 o1 (pt a0 a1 a2)) := x1
  clear x1
  go_wp2_with fail
  refine (zzp_any a0 a1 a2 w1).mono ?_
  rintro e w2 ⟨g2, o2, c2, rfl, x2, b2⟩
  have X2 : Hid (Sts w2 g2 o2 (pt a0 a1 a2)) := x2
  have Y1 : Hid (Sts w2 g1 o1 (pt a0 a1 a2)) := sts_below X1.out b2
  have hb2 : Below w.heap.size w w2 := b1.trans (b2.mono b1.size)
  clear x2 X1
  go_wp2_with fail
  refine (eqs_yes g1 o1 g2 o2 c1 c2 _ _ w2 (pt_len _ _ _) (pt_len _ _ _) Y1.out X2.out rfl).mono ?_
  rintro e w3 ⟨rfl, q1, rfl⟩
  go_wp2_with fail
  have b3 : Below w2.heap.size w2 (w2.drewN q1) := below_drewN (Below.refl _ _) q1
  refine (drop_any a0 a1 a2 _).mono ?_
  rintro e w4 ⟨g4, o4, c4, rfl, x4, b4⟩
  have b24 : Below w2.heap.size w2 w4 := b3.trans b4
  have X4 : Hid (Sts w4 g4 o4 (pt a0 a1 a2)) := x4
  clear x4
  go_wp2_with fail
  refine (eqs_yes g1 o1 g4 o4 c1 c4 _ _ w4 (pt_len _ _ _) (pt_len _ _ _) (sts_below Y1.out b24) X4.out rfl).mono ?_
  rintro e w5 ⟨rfl, q2, rfl⟩
  have b25 : Below w2.heap.size w2 (w4.drewN q2) := below_drewN b24 q2
  go_wp2_with fail
  refine (drop_any a0 a1 a2 _).mono ?_
  rintro e w6 ⟨g6, o6, c6, rfl, x6, b6⟩
  have b26 : Below w2.heap.size w2 w6 := b25.trans (b6.mono b25.size)
  have X6 : Hid (Sts w6 g6 o6 (pt a0 a1 a2)) := x6
  clear x6
  go_wp2_with fail
  refine (eqs_yes g2 o2 g6 o6 c2 c6 _ _ w6 (pt_len _ _ _) (pt_len _ _ _) (sts_below X2.out b26) X6.out rfl).mono ?_
  rintro e w7 ⟨rfl, q3, rfl⟩
  go_wp2
  go_ret
  exact ⟨rfl, below_drewN (hb2.trans (b26.mono hb2.size)) q3⟩

set_option maxRecDepth 100000 in
set_option maxHeartbeats 3200000 in
theorem col_d (a0 a1 a2 a3 a4 a5 : ByteArray) (w : World) (k0 : a0.size ≤ 131072) (k1 : a1.size ≤ 131072) (k2 : a2.size ≤ 131072) (k3 : a3.size ≤ 131072) (k4 : a4.size ≤ 131072) (k5 : a5.size ≤ 131072) (hq : (a0.toList == a3.toList) = false) :
    Calls Try.prog 4 #[.string a0, .string a1, .string a2, .string a3, .string a4, .string a5] w fun e w' => e = .returned (.bool true) ∧ Below w.heap.size w w' := by
  have j0 : (a0.size : Int) ≤ 131072 := by omega
  have j1 : (a1.size : Int) ≤ 131072 := by omega
  have j2 : (a2.size : Int) ≤ 131072 := by omega
  have j3 : (a3.size : Int) ≤ 131072 := by omega
  have j4 : (a4.size : Int) ≤ 131072 := by omega
  have j5 : (a5.size : Int) ≤ 131072 := by omega
  have hne : ¬ (a0 = a3 ∧ a1 = a4 ∧ a2 = a5) := by rintro ⟨rfl, _⟩; simp at hq
  have HN : Hid (¬ pt a0 a1 a2 = pt a3 a4 a5) := fun h => hne (pt_inj h)
  clear hne
  go_enter Try.func4, Try.ntmps4
  go_wp2_with (go_at_call 9; go_in)
  refine (zzp_any a0 a1 a2 w).mono ?_
  rintro e w1 ⟨g1, o1, c1, rfl, x1, b1⟩
  have X1 : Hid (Sts w1 g1 o1 (pt a0 a1 a2)) := x1
  clear x1
  go_wp2_with fail
  refine (zzp_any a3 a4 a5 w1).mono ?_
  rintro e w2 ⟨g2, o2, c2, rfl, x2, b2⟩
  have X2 : Hid (Sts w2 g2 o2 (pt a3 a4 a5)) := x2
  have Y1 : Hid (Sts w2 g1 o1 (pt a0 a1 a2)) := sts_below X1.out b2
  have hb2 : Below w.heap.size w w2 := b1.trans (b2.mono b1.size)
  clear x2 X1
  go_wp2_with fail
  refine (eqs_no g1 o1 g2 o2 c1 c2 _ _ w2 (pt_len _ _ _) (pt_len _ _ _) Y1.out X2.out HN.out).mono ?_
  rintro e w3 ⟨rfl, q1, rfl⟩
  go_wp2_with fail
  have b3 : Below w2.heap.size w2 (w2.drewN q1) := below_drewN (Below.refl _ _) q1
  refine (drop_any a0 a1 a2 _).mono ?_
  rintro e w4 ⟨g4, o4, c4, rfl, x4, b4⟩
  have b24 : Below w2.heap.size w2 w4 := b3.trans b4
  have X4 : Hid (Sts w4 g4 o4 (pt a0 a1 a2)) := x4
  clear x4
  go_wp2_with fail
  refine (eqs_yes g1 o1 g4 o4 c1 c4 _ _ w4 (pt_len _ _ _) (pt_len _ _ _) (sts_below Y1.out b24) X4.out rfl).mono ?_
  rintro e w5 ⟨rfl, q2, rfl⟩
  have b25 : Below w2.heap.size w2 (w4.drewN q2) := below_drewN b24 q2
  go_wp2_with fail
  refine (drop_any a3 a4 a5 _).mono ?_
  rintro e w6 ⟨g6, o6, c6, rfl, x6, b6⟩
  have b26 : Below w2.heap.size w2 w6 := b25.trans (b6.mono b25.size)
  have X6 : Hid (Sts w6 g6 o6 (pt a3 a4 a5)) := x6
  clear x6
  go_wp2_with fail
  refine (eqs_yes g2 o2 g6 o6 c2 c6 _ _ w6 (pt_len _ _ _) (pt_len _ _ _) (sts_below X2.out b26) X6.out rfl).mono ?_
  rintro e w7 ⟨rfl, q3, rfl⟩
  go_wp2
  go_ret
  exact ⟨rfl, below_drewN (hb2.trans (b26.mono hb2.size)) q3⟩

set_option maxRecDepth 100000 in
set_option maxHeartbeats 3200000 in
theorem col_t (a0 a1 a2 a4 a5 : ByteArray) (w : World) (k0 : a0.size ≤ 131072) (k1 : a1.size ≤ 131072) (k2 : a2.size ≤ 131072) (k3 : a4.size ≤ 131072) (k4 : a5.size ≤ 131072) (hq : (a1.toList == a4.toList) = false) :
    Calls Try.prog 4 #[.string a0, .string a1, .string a2, .string a0, .string a4, .string a5] w fun e w' => e = .returned (.bool true) ∧ Below w.heap.size w w' := by
  have j0 : (a0.size : Int) ≤ 131072 := by omega
  have j1 : (a1.size : Int) ≤ 131072 := by omega
  have j2 : (a2.size : Int) ≤ 131072 := by omega
  have j3 : (a4.size : Int) ≤ 131072 := by omega
  have j4 : (a5.size : Int) ≤ 131072 := by omega
  have hne : ¬ (a0 = a0 ∧ a1 = a4 ∧ a2 = a5) := by rintro ⟨_, rfl, _⟩; simp at hq
  have HN : Hid (¬ pt a0 a1 a2 = pt a0 a4 a5) := fun h => hne (pt_inj h)
  clear hne
  go_enter Try.func4, Try.ntmps4
  go_wp2_with (go_at_call 9; go_in)
  refine (zzp_any a0 a1 a2 w).mono ?_
  rintro e w1 ⟨g1, o1, c1, rfl, x1, b1⟩
  have X1 : Hid (Sts w1 g1 o1 (pt a0 a1 a2)) := x1
  clear x1
  go_wp2_with fail
  refine (zzp_any a0 a4 a5 w1).mono ?_
  rintro e w2 ⟨g2, o2, c2, rfl, x2, b2⟩
  have X2 : Hid (Sts w2 g2 o2 (pt a0 a4 a5)) := x2
  have Y1 : Hid (Sts w2 g1 o1 (pt a0 a1 a2)) := sts_below X1.out b2
  have hb2 : Below w.heap.size w w2 := b1.trans (b2.mono b1.size)
  clear x2 X1
  go_wp2_with fail
  refine (eqs_no g1 o1 g2 o2 c1 c2 _ _ w2 (pt_len _ _ _) (pt_len _ _ _) Y1.out X2.out HN.out).mono ?_
  rintro e w3 ⟨rfl, q1, rfl⟩
  go_wp2_with fail
  have b3 : Below w2.heap.size w2 (w2.drewN q1) := below_drewN (Below.refl _ _) q1
  refine (drop_any a0 a1 a2 _).mono ?_
  rintro e w4 ⟨g4, o4, c4, rfl, x4, b4⟩
  have b24 : Below w2.heap.size w2 w4 := b3.trans b4
  have X4 : Hid (Sts w4 g4 o4 (pt a0 a1 a2)) := x4
  clear x4
  go_wp2_with fail
  refine (eqs_yes g1 o1 g4 o4 c1 c4 _ _ w4 (pt_len _ _ _) (pt_len _ _ _) (sts_below Y1.out b24) X4.out rfl).mono ?_
  rintro e w5 ⟨rfl, q2, rfl⟩
  have b25 : Below w2.heap.size w2 (w4.drewN q2) := below_drewN b24 q2
  go_wp2_with fail
  refine (drop_any a0 a4 a5 _).mono ?_
  rintro e w6 ⟨g6, o6, c6, rfl, x6, b6⟩
  have b26 : Below w2.heap.size w2 w6 := b25.trans (b6.mono b25.size)
  have X6 : Hid (Sts w6 g6 o6 (pt a0 a4 a5)) := x6
  clear x6
  go_wp2_with fail
  refine (eqs_yes g2 o2 g6 o6 c2 c6 _ _ w6 (pt_len _ _ _) (pt_len _ _ _) (sts_below X2.out b26) X6.out rfl).mono ?_
  rintro e w7 ⟨rfl, q3, rfl⟩
  go_wp2
  go_ret
  exact ⟨rfl, below_drewN (hb2.trans (b26.mono hb2.size)) q3⟩

set_option maxRecDepth 100000 in
set_option maxHeartbeats 3200000 in
theorem col_n (a0 a1 a2 a5 : ByteArray) (w : World) (k0 : a0.size ≤ 131072) (k1 : a1.size ≤ 131072) (k2 : a2.size ≤ 131072) (k3 : a5.size ≤ 131072) (hq : (a2.toList == a5.toList) = false) :
    Calls Try.prog 4 #[.string a0, .string a1, .string a2, .string a0, .string a1, .string a5] w fun e w' => e = .returned (.bool true) ∧ Below w.heap.size w w' := by
  have j0 : (a0.size : Int) ≤ 131072 := by omega
  have j1 : (a1.size : Int) ≤ 131072 := by omega
  have j2 : (a2.size : Int) ≤ 131072 := by omega
  have j3 : (a5.size : Int) ≤ 131072 := by omega
  have hne : ¬ (a0 = a0 ∧ a1 = a1 ∧ a2 = a5) := by rintro ⟨_, _, rfl⟩; simp at hq
  have HN : Hid (¬ pt a0 a1 a2 = pt a0 a1 a5) := fun h => hne (pt_inj h)
  clear hne
  go_enter Try.func4, Try.ntmps4
  go_wp2_with (go_at_call 9; go_in)
  refine (zzp_any a0 a1 a2 w).mono ?_
  rintro e w1 ⟨g1, o1, c1, rfl, x1, b1⟩
  have X1 : Hid (Sts w1 g1 o1 (pt a0 a1 a2)) := x1
  clear x1
  go_wp2_with fail
  refine (zzp_any a0 a1 a5 w1).mono ?_
  rintro e w2 ⟨g2, o2, c2, rfl, x2, b2⟩
  have X2 : Hid (Sts w2 g2 o2 (pt a0 a1 a5)) := x2
  have Y1 : Hid (Sts w2 g1 o1 (pt a0 a1 a2)) := sts_below X1.out b2
  have hb2 : Below w.heap.size w w2 := b1.trans (b2.mono b1.size)
  clear x2 X1
  go_wp2_with fail
  refine (eqs_no g1 o1 g2 o2 c1 c2 _ _ w2 (pt_len _ _ _) (pt_len _ _ _) Y1.out X2.out HN.out).mono ?_
  rintro e w3 ⟨rfl, q1, rfl⟩
  go_wp2_with fail
  have b3 : Below w2.heap.size w2 (w2.drewN q1) := below_drewN (Below.refl _ _) q1
  refine (drop_any a0 a1 a2 _).mono ?_
  rintro e w4 ⟨g4, o4, c4, rfl, x4, b4⟩
  have b24 : Below w2.heap.size w2 w4 := b3.trans b4
  have X4 : Hid (Sts w4 g4 o4 (pt a0 a1 a2)) := x4
  clear x4
  go_wp2_with fail
  refine (eqs_yes g1 o1 g4 o4 c1 c4 _ _ w4 (pt_len _ _ _) (pt_len _ _ _) (sts_below Y1.out b24) X4.out rfl).mono ?_
  rintro e w5 ⟨rfl, q2, rfl⟩
  have b25 : Below w2.heap.size w2 (w4.drewN q2) := below_drewN b24 q2
  go_wp2_with fail
  refine (drop_any a0 a1 a5 _).mono ?_
  rintro e w6 ⟨g6, o6, c6, rfl, x6, b6⟩
  have b26 : Below w2.heap.size w2 w6 := b25.trans (b6.mono b25.size)
  have X6 : Hid (Sts w6 g6 o6 (pt a0 a1 a5)) := x6
  clear x6
  go_wp2_with fail
  refine (eqs_yes g2 o2 g6 o6 c2 c6 _ _ w6 (pt_len _ _ _) (pt_len _ _ _) (sts_below X2.out b26) X6.out rfl).mono ?_
  rintro e w7 ⟨rfl, q3, rfl⟩
  go_wp2
  go_ret
  exact ⟨rfl, below_drewN (hb2.trans (b26.mono hb2.size)) q3⟩

theorem beq_no {a b : ByteArray} (h : ¬ a = b) : (a.toList == b.toList) = false := by
  rw [beq_eq_false_iff_ne]
  exact fun hh => h (list_inj hh)

/-- ████ THE LAW's WALK ████ -/
theorem col_law (a0 a1 a2 a3 a4 a5 : ByteArray) (w0 : a0.size ≤ maxLen) (w1 : a1.size ≤ maxLen) (w2 : a2.size ≤ maxLen) (w3 : a3.size ≤ maxLen) (w4 : a4.size ≤ maxLen) (w5 : a5.size ≤ maxLen) (w : World) :
    Calls Try.prog 4 #[.string a0, .string a1, .string a2, .string a3, .string a4, .string a5] w fun e w' => e = .returned (.bool true) ∧ Below w.heap.size w w' := by
  by_cases hn : 131072 < a0.size ∨ 131072 < a1.size ∨ 131072 < a2.size ∨ 131072 < a3.size ∨ 131072 < a4.size ∨ 131072 < a5.size
  · exact col_big a0 a1 a2 a3 a4 a5 w hn w0 w1 w2 w3 w4 w5
  · by_cases h0 : a0 = a3
    · subst h0
      by_cases h1 : a1 = a4
      · subst h1
        by_cases h2 : a2 = a5
        · subst h2
          exact col_same a0 a1 a2 w (by omega) (by omega) (by omega)
        · exact col_n a0 a1 a2 a5 w (by omega) (by omega) (by omega) (by omega) (beq_no h2)
      · exact col_t a0 a1 a2 a4 a5 w (by omega) (by omega) (by omega) (by omega) (by omega) (beq_no h1)
    · exact col_d a0 a1 a2 a3 a4 a5 w (by omega) (by omega) (by omega) (by omega) (by omega) (by omega) (beq_no h0)
end Go.Proofs.Qxb6619202a
