import Derived.Test.Qxb6619202aRows
import Derived.WalkKit
import Derived.WalkSpells
import Derived.WalkLawsBesides
import Derived.RegionTactic
import Derived.Deep.QuietTactic
import Derived.BigQuiet
import Derived.BigRegion
import Derived.WalkSmall
namespace Go.Proofs.Qxb6619202a
open Go.RowKit
set_option linter.unusedVariables false
set_option linter.unusedSimpArgs false

/-- the row of strings ss lies at ⟨b, off⟩. -/
def Sts (w : World) (b off : Nat) (ss : List ByteArray) : Prop := ∀ i, i < ss.length → w.cell? ⟨b, off + i, none⟩ = some (.string (ss.getD i ByteArray.empty))
theorem lt_of_cell {w : World} {b o : Nat} {v : Value} (h : w.cell? ⟨b, o, none⟩ = some v) : b < w.heap.size := by
  simp only [World.cell?] at h
  by_cases hb : b < w.heap.size
  · exact hb
  · simp [hb] at h
theorem sts_below {w w' : World} {b off : Nat} {ss : List ByteArray} (h : Sts w b off ss) (hb : Below w.heap.size w w') : Sts w' b off ss := by
  intro i hi
  rw [hb.cell (lt_of_cell (h i hi)), h i hi]

/-- the parts of a column reference. -/
def pt (d t n : ByteArray) : List ByteArray := if d.toList.isEmpty = false then [d, t, n] else if t.toList.isEmpty = false then [t, n] else [n]

theorem list_inj {a b : ByteArray} (h : a.toList = b.toList) : a = b := by
  rw [ByteArray.toList_eq, ByteArray.toList_eq] at h
  cases a; cases b
  congr 1
  exact Array.toList_inj.1 h

set_option maxHeartbeats 800000 in
theorem eqs_len (b off b' off' n m c d : Nat) (w : World) (h : ((n : Int) != (m : Int)) = true) (hn : n ≤ 3) (hm : m ≤ 3) :
    Calls Try.prog 11 #[.slice (some ⟨b, off, none⟩) n c, .slice (some ⟨b', off', none⟩) m d] w fun e w' => e = .returned (.bool false) ∧ w' = w := by
  have q1 := fun w => Lib.run_eql_slice_nil (P := Try.prog) w 25 9 (some ⟨b, off, none⟩) n c 0 0 Try.underlying25
  have q2 := fun w => Lib.run_eql_slice_nil (P := Try.prog) w 25 9 (some ⟨b', off', none⟩) m d 0 0 Try.underlying25
  go_enter Try.func11, Try.ntmps11
  go_wp2
  go_ret
  exact ⟨rfl, rfl⟩

set_option maxHeartbeats 800000 in
theorem eqs_same (b off b' off' n c d : Nat) (xs ys : List ByteArray) (w : World) (hn : n ≤ 3)
    (hx : ∀ i, i < n → w.cell? ⟨b, off + i, none⟩ = some (.string (xs.getD i ByteArray.empty)))
    (hy : ∀ i, i < n → w.cell? ⟨b', off' + i, none⟩ = some (.string (ys.getD i ByteArray.empty))) :
    Calls Try.prog 11 #[.slice (some ⟨b, off, none⟩) n c, .slice (some ⟨b', off', none⟩) n d] w fun e w' =>
      ∃ r : Bool, e = .returned (.bool r) ∧ (∃ k, w' = w.drewN k) ∧ (r = true ↔ ∀ i, i < n → xs.getD i ByteArray.empty = ys.getD i ByteArray.empty) := by
  have q1 := fun w => Lib.run_eql_slice_nil (P := Try.prog) w 25 9 (some ⟨b, off, none⟩) n c 0 0 Try.underlying25
  have q2 := fun w => Lib.run_eql_slice_nil (P := Try.prog) w 25 9 (some ⟨b', off', none⟩) n d 0 0 Try.underlying25
  have HXX : Hid (∀ i, i < n → w.cell? ⟨b, off + i, none⟩ = some (.string (xs.getD i ByteArray.empty))) := hx
  have HYY : Hid (∀ i, i < n → w.cell? ⟨b', off' + i, none⟩ = some (.string (ys.getD i ByteArray.empty))) := hy
  clear hx hy
  go_enter Try.func11, Try.ntmps11
  go_wp2
  go_loopw [5] (fun i wr => ∃ k : Nat, k ≤ n ∧ i = .int .i64 k ∧ (∃ q, wr = w.drewN q) ∧ Hid (∀ j, j < k → xs.getD j ByteArray.empty = ys.getD j ByteArray.empty)) (fun i _ => n - (intOf i).toNat)
  case atStart => exact ⟨0, Nat.zero_le _, rfl, ⟨0, rfl⟩, fun j hj => by omega⟩
  case round =>
    obtain ⟨k, hk, rfl, ⟨q, rfl⟩, hall⟩ := hrel
    by_cases hlt : k < n
    · obtain ⟨c1, hc1⟩ : ∃ c, c = xs.getD k ByteArray.empty := ⟨_, rfl⟩
      obtain ⟨c2, hc2⟩ : ∃ c, c = ys.getD k ByteArray.empty := ⟨_, rfl⟩
      have h1 : w.cell? ⟨b, off + k, none⟩ = some (.string c1) := by rw [HXX.out k hlt, hc1]
      have h2 : w.cell? ⟨b', off' + k, none⟩ = some (.string c2) := by rw [HYY.out k hlt, hc2]
      have HC1 : Hid (c1 = xs.getD k ByteArray.empty) := hc1
      have HC2 : Hid (c2 = ys.getD k ByteArray.empty) := hc2
      clear hc1 hc2
      go_wp2
      go_quiet (fail)
      go_wp2
      · go_ret
        refine ⟨false, rfl, ⟨_, by rw [World.drewN_drewN]⟩, ?_⟩
        simp only [Bool.false_eq_true, false_iff]
        intro hh
        have h3 := hh k hlt
        rw [← HC1.out, ← HC2.out] at h3
        subst h3
        simp_all
      · go_roundw
        case rel =>
          refine ⟨k + 1, by omega, by go_num, ⟨_, rfl⟩, fun j hj => ?_⟩
          by_cases hjk : j < k
          · exact hall.out j hjk
          · obtain rfl : j = k := by omega
            rw [← HC1.out, ← HC2.out]
            exact list_inj (by simp_all)
        case measure => simp [intOf]; omega
    · go_wp2
      go_ret
      obtain rfl : k = n := by omega
      exact ⟨true, rfl, ⟨_, rfl⟩, by simpa using hall.out⟩

theorem ext_strs (xs ys : List ByteArray) (hl : xs.length = ys.length) : xs = ys ↔ ∀ i, i < xs.length → xs.getD i ByteArray.empty = ys.getD i ByteArray.empty := by
  constructor
  · intro h; subst h; intros; rfl
  · intro h
    apply List.ext_getElem hl
    intro i h1 h2
    have := h i h1
    simpa [List.getD_eq_getElem?_getD, h1, h2] using this

/-- equalStrings BY ITS CONTRACT, on two rows that are not nil. -/
theorem eqs_any (b off b' off' c d : Nat) (xs ys : List ByteArray) (w : World) (h3 : xs.length ≤ 3) (h3' : ys.length ≤ 3) (hx : Sts w b off xs) (hy : Sts w b' off' ys) :
    Calls Try.prog 11 #[.slice (some ⟨b, off, none⟩) xs.length c, .slice (some ⟨b', off', none⟩) ys.length d] w fun e w' => e = .returned (.bool (decide (xs = ys))) ∧ ∃ k, w' = w.drewN k := by
  by_cases hl : xs.length = ys.length
  · have hy' : ∀ i, i < xs.length → w.cell? ⟨b', off' + i, none⟩ = some (.string (ys.getD i ByteArray.empty)) := fun i hi => hy i (by omega)
    rw [← hl]
    refine (eqs_same b off b' off' xs.length c d xs ys w h3 hx hy').mono fun e w' ⟨r, he, hw, hr⟩ => ⟨?_, hw⟩
    rw [he]
    congr 2
    rw [← ext_strs xs ys hl] at hr
    cases r <;> simp_all
  · refine (eqs_len b off b' off' xs.length ys.length c d w (by simp; omega) h3 h3').mono fun e w' ⟨he, hw⟩ => ⟨?_, 0, hw⟩
    have : xs ≠ ys := by intro h; subst h; omega
    rw [he]
    simp [this]
theorem eqs_yes (b off b' off' c d : Nat) (xs ys : List ByteArray) (w : World) (h3 : xs.length ≤ 3) (h3' : ys.length ≤ 3) (hx : Sts w b off xs) (hy : Sts w b' off' ys) (h : xs = ys) :
    Calls Try.prog 11 #[.slice (some ⟨b, off, none⟩) xs.length c, .slice (some ⟨b', off', none⟩) ys.length d] w fun e w' => e = .returned (.bool true) ∧ ∃ k, w' = w.drewN k := by
  refine (eqs_any b off b' off' c d xs ys w h3 h3' hx hy).mono fun e w' ⟨he, hw⟩ => ⟨?_, hw⟩
  rw [he]; simp [h]
theorem eqs_no (b off b' off' c d : Nat) (xs ys : List ByteArray) (w : World) (h3 : xs.length ≤ 3) (h3' : ys.length ≤ 3) (hx : Sts w b off xs) (hy : Sts w b' off' ys) (h : ¬ xs = ys) :
    Calls Try.prog 11 #[.slice (some ⟨b, off, none⟩) xs.length c, .slice (some ⟨b', off', none⟩) ys.length d] w fun e w' => e = .returned (.bool false) ∧ ∃ k, w' = w.drewN k := by
  refine (eqs_any b off b' off' c d xs ys w h3 h3' hx hy).mono fun e w' ⟨he, hw⟩ => ⟨?_, hw⟩
  rw [he]; simp [h]

theorem sts3 {w : World} {b off : Nat} {x y z : ByteArray} (h0 : w.cell? ⟨b, off, none⟩ = some (.string x)) (h1 : w.cell? ⟨b, off + 1, none⟩ = some (.string y)) (h2 : w.cell? ⟨b, off + 2, none⟩ = some (.string z)) : Sts w b off [x, y, z] := by
  intro i hi
  have c : i = 0 ∨ i = 1 ∨ i = 2 := by simp at hi; omega
  rcases c with rfl | rfl | rfl
  · simpa using h0
  · simpa using h1
  · simpa using h2
theorem sts2 {w : World} {b off : Nat} {x y : ByteArray} (h0 : w.cell? ⟨b, off, none⟩ = some (.string x)) (h1 : w.cell? ⟨b, off + 1, none⟩ = some (.string y)) : Sts w b off [x, y] := by
  intro i hi
  have c : i = 0 ∨ i = 1 := by simp at hi; omega
  rcases c with rfl | rfl
  · simpa using h0
  · simpa using h1
theorem sts1 {w : World} {b off : Nat} {x : ByteArray} (h0 : w.cell? ⟨b, off, none⟩ = some (.string x)) : Sts w b off [x] := by
  intro i hi
  obtain rfl : i = 0 := by simp at hi; omega
  simpa using h0

/-- THE PARTS's RESULT: a row of strings at ⟨g, k⟩, in new memory. -/
def PtPost (d t n : ByteArray) (w : World) (e : Ending) (w' : World) : Prop :=
  ∃ g k c, e = .returned (.slice (some ⟨g, k, none⟩) (pt d t n).length c) ∧ Sts w' g k (pt d t n) ∧ Below w.heap.size w w'
theorem pt3 {d : ByteArray} (t n : ByteArray) (h : d.toList.isEmpty = false) : pt d t n = [d, t, n] := by simp [pt, h]
theorem pt2 {d t : ByteArray} (n : ByteArray) (h : d.toList.isEmpty = true) (h' : t.toList.isEmpty = false) : pt d t n = [t, n] := by simp [pt, h, h']
theorem pt1 {d t : ByteArray} (n : ByteArray) (h : d.toList.isEmpty = true) (h' : t.toList.isEmpty = true) : pt d t n = [n] := by simp [pt, h, h']

set_option maxHeartbeats 800000 in
theorem parts_any (d t n : ByteArray) (pb : Nat) (w : World) (h0 : w.cell? ⟨pb, 0, none⟩ = some (.string d)) (h1 : w.cell? ⟨pb, 1, none⟩ = some (.string t)) (h2 : w.cell? ⟨pb, 2, none⟩ = some (.string n)) :
    Calls Try.prog 18 #[.pointer (some ⟨pb, 0, none⟩)] w (PtPost d t n w) := by
  cases hd : d.toList.isEmpty
  · go_enter Try.func18, Try.ntmps18
    go_wp2
    go_region
    all_goals go_wp2
    all_goals go_ret
    all_goals
      refine ⟨w.heap.size, 0, 3, ?_, ?_, ((Below.refl _ _).alloc (Nat.le_refl _) _).drew⟩
      · rw [pt3 t n hd]; rfl
      · rw [pt3 t n hd]; exact sts3 (by go_simp) (by go_simp) (by go_simp)
  · cases ht : t.toList.isEmpty
    · go_enter Try.func18, Try.ntmps18
      go_wp2
      go_region
      all_goals go_wp2
      all_goals go_ret
      all_goals
        refine ⟨w.heap.size, 0, 2, ?_, ?_, ((Below.refl _ _).alloc (Nat.le_refl _) _).drew⟩
        · rw [pt2 n hd ht]; rfl
        · rw [pt2 n hd ht]; exact sts2 (by go_simp) (by go_simp)
    · go_enter Try.func18, Try.ntmps18
      go_wp2
      go_ret
      refine ⟨w.heap.size, 0, 1, ?_, ?_, (Below.refl _ _).alloc (Nat.le_refl _) _⟩
      · rw [pt1 n hd ht]; rfl
      · rw [pt1 n hd ht]; exact sts1 (by go_simp)

set_option maxHeartbeats 800000 in
theorem zzp_any (d t n : ByteArray) (w : World) :
    Calls Try.prog 10 #[.string d, .string t, .string n] w (PtPost d t n w) := by
  go_enter Try.func10, Try.ntmps10
  go_wp2_with fail
  refine (parts_any d t n w.heap.size _ (by go_simp) (by go_simp) (by go_simp)).mono ?_
  rintro e w1 ⟨g, k, c, rfl, hs, hb⟩
  go_wp2
  go_ret
  exact ⟨g, k, c, rfl, hs, ((Below.refl _ _).alloc (Nat.le_refl _) _).trans (hb.mono (by simp))⟩

set_option maxHeartbeats 800000 in
theorem drop_any (d t n : ByteArray) (w : World) :
    Calls Try.prog 12 #[.string d, .string t, .string n] w (PtPost d t n w) := by
  cases hd : d.toList.isEmpty
  · go_enter Try.func12, Try.ntmps12
    go_wp2
    refine wp_loop_rounds 1 ?_
    rw [rounds_succ]
    go_wp2
    go_ret
    refine ⟨w.heap.size, 0, 3, ?_, ?_, (Below.refl _ _).alloc (Nat.le_refl _) _⟩
    · rw [pt3 t n hd]; rfl
    · rw [pt3 t n hd]; exact sts3 (by go_simp) (by go_simp) (by go_simp)
  · cases ht : t.toList.isEmpty
    · go_enter Try.func12, Try.ntmps12
      go_wp2
      refine wp_loop_rounds 2 ?_
      rw [rounds_succ]
      go_wp2
      rw [rounds_succ]
      go_wp2
      go_ret
      refine ⟨w.heap.size, 1, 2, ?_, ?_, (Below.refl _ _).alloc (Nat.le_refl _) _⟩
      · rw [pt2 n hd ht]; rfl
      · rw [pt2 n hd ht]; exact sts2 (by go_simp) (by go_simp)
    · go_enter Try.func12, Try.ntmps12
      go_wp2
      refine wp_loop_rounds 3 ?_
      rw [rounds_succ]
      go_wp2
      rw [rounds_succ]
      go_wp2
      rw [rounds_succ]
      go_wp2
      go_ret
      refine ⟨w.heap.size, 2, 1, ?_, ?_, (Below.refl _ _).alloc (Nat.le_refl _) _⟩
      · rw [pt1 n hd ht]; rfl
      · rw [pt1 n hd ht]; exact sts1 (by go_simp)
end Go.Proofs.Qxb6619202a
