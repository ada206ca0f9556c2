import Derived.Test.Qxb6619202aUnPlain
import Derived.WalkSpells
import Derived.WalkLawsBesides
import Derived.Deep.QuietTactic
import Derived.BigQuiet
import Derived.Deep.RegionWith
namespace Go.Proofs.Qxb6619202a
open Go.RowKit
set_option linter.unusedVariables false
set_option linter.unusedSimpArgs false

set_option maxHeartbeats 800000 in
theorem un_any (c : Int) (w : World) (h0 : 0 ≤ c) (h1 : c ≤ 255) :
    Calls Try.prog 19 #[.int .u8 c] w fun e w' => e = .returned (.string (unesc c)) ∧ w' = w := by
  have hs := encode_le c h0 h1
  go_enter Try.func19, Try.ntmps19
  go_wp2
  all_goals first
    | (go_ret; refine ⟨?_, rfl⟩; simp_all [unesc])
    | (exfalso; omega)

set_option maxHeartbeats 800000 in
theorem ctl_any (c : Int) (w : World) :
    Calls Try.prog 15 #[.int .u8 c] w fun e w' => e = .returned (.tuple #[.int .u8 (ctl c).1, .bool (ctl c).2]) ∧ w' = w := by
  go_enter Try.func15, Try.ntmps15
  go_wp2
  all_goals
    go_ret2
    refine ⟨?_, rfl⟩
    simp_all [ctl]

set_option maxHeartbeats 800000 in
theorem clash_any (a b : Int) (w : World) :
    Calls Try.prog 14 #[.int .u8 a, .int .u8 b] w fun e w' => e = .returned (.bool (clash a b)) ∧ w' = w := by
  cases hb : (ctl a).2
  · have e1 : clash a b = false := by simp [clash, hb]
    rw [e1]
    go_enter Try.func14, Try.ntmps14
    go_wp2_with (go_at_call 15; refine (ctl_any a _).mono ?_; rw [hb]; rintro e w' ⟨rfl, rfl⟩)
    go_ret
    exact ⟨rfl, rfl⟩
  · have e1 : clash a b = ((ctl a).1 == b) := by simp [clash, hb]
    rw [e1]
    go_enter Try.func14, Try.ntmps14
    go_wp2_with (go_at_call 15; refine (ctl_any a _).mono ?_; rw [hb]; rintro e w' ⟨rfl, rfl⟩)
    go_ret
    exact ⟨rfl, rfl⟩

/-- the byte at place i (0 where there is none). -/
def at_ (s : ByteArray) (i : Nat) : Int := if h : i < s.size then ((s[i]'h).toNat : Int) else 0
theorem index_run (s : ByteArray) (i : Nat) (I : Int) (hI : I = (i : Int)) (h : i < s.size) (wx : World) : (Instr.index 9 (.string s) (.int .i64 I)).run Try.prog wx = .ok (.int .u8 (at_ s i)) wx := by
  subst hI
  rw [run_index_string wx 9 s .i64 _ Try.underlying9, dif_pos (by omega)]
  simp [at_, h]

set_option maxHeartbeats 800000 in
theorem ends_no (s t : ByteArray) (w : World) (hs : s.size ≤ maxLen) (ht : t.size ≤ maxLen) (h : s.size < t.size) :
    Calls Try.prog 16 #[.string s, .string t] w fun e w' => e = .returned (.bool false) ∧ w' = w := by
  unfold maxLen at hs ht
  have h' : (s.size : Int) < (t.size : Int) := by omega
  go_enter Try.func16, Try.ntmps16
  go_wp2
  go_ret
  exact ⟨rfl, rfl⟩

set_option maxHeartbeats 800000 in
theorem ends_loop (s t : ByteArray) (d : Nat) (w : World) (hs : s.size ≤ maxLen) (ht : t.size ≤ maxLen) (h : s.size = d + t.size) :
    Calls Try.prog 16 #[.string s, .string t] w fun e w' => ∃ r : Bool, e = .returned (.bool r) ∧ (∃ q, w' = w.drewN q) ∧ (r = true ↔ ∀ j, j < t.size → at_ s (d + j) = at_ t j) := by
  unfold maxLen at hs ht
  have h' : (t.size : Int) ≤ (s.size : Int) := by omega
  have hoff : (s.size : Int) - (t.size : Int) = (d : Int) := by omega
  have HD : Hid (s.size = d + t.size) := h
  clear h
  go_enter Try.func16, Try.ntmps16
  go_wp2
  go_loopw [6] (fun i wr => ∃ k : Nat, k ≤ t.size ∧ i = .int .i64 k ∧ (∃ q, wr = w.drewN q) ∧ Hid (∀ j, j < k → at_ s (d + j) = at_ t j)) (fun i _ => t.size - (intOf i).toNat)
  case atStart => exact ⟨0, Nat.zero_le _, rfl, ⟨0, rfl⟩, fun j hj => by omega⟩
  case round =>
    obtain ⟨k, hk, rfl, ⟨q, rfl⟩, hall⟩ := hrel
    by_cases hlt : k < t.size
    · have hwr : IntKind.i64.wrap ((d : Int) + (k : Int)) = (d : Int) + (k : Int) := by simp [IntKind.wrap, IntKind.bits, IntKind.signed]; omega
      obtain ⟨c1, hc1⟩ : ∃ c, c = at_ s (d + k) := ⟨_, rfl⟩
      obtain ⟨c2, hc2⟩ : ∃ c, c = at_ t k := ⟨_, rfl⟩
      have i1 := fun wx => index_run s (d + k) ((d : Int) + (k : Int)) (by omega) (by have := HD.out; omega) wx
      have i2 := fun wx => index_run t k (k : Int) rfl hlt wx
      rw [← hc1] at i1
      rw [← hc2] at i2
      have HC1 : Hid (c1 = at_ s (d + k)) := hc1
      have HC2 : Hid (c2 = at_ t k) := hc2
      clear hc1 hc2
      go_wp2
      go_quiet (fail)
      go_wp2
      · go_ret
        refine ⟨false, rfl, ⟨_, by rw [World.drewN_drewN]⟩, ?_⟩
        simp only [Bool.false_eq_true, false_iff]
        intro hh
        have h3 := hh k hlt
        rw [← HC1.out, ← HC2.out] at h3
        simp_all
      · go_roundw
        case rel =>
          refine ⟨k + 1, by omega, by go_num, ⟨_, rfl⟩, fun j hj => ?_⟩
          by_cases hjk : j < k
          · exact hall.out j hjk
          · obtain rfl : j = k := by omega
            rw [← HC1.out, ← HC2.out]
            simp_all
        case measure => simp [intOf]; omega
    · go_wp2
      go_ret
      obtain rfl : k = t.size := by omega
      exact ⟨true, rfl, ⟨_, rfl⟩, by simpa using hall.out⟩

/-- does s end with t? -/
def ends (s t : ByteArray) : Bool := decide (t.size ≤ s.size ∧ ∀ j, j < t.size → at_ s (s.size - t.size + j) = at_ t j)

theorem ends_any (s t : ByteArray) (w : World) (hs : s.size ≤ maxLen) (ht : t.size ≤ maxLen) :
    Calls Try.prog 16 #[.string s, .string t] w fun e w' => e = .returned (.bool (ends s t)) ∧ ∃ q, w' = w.drewN q := by
  by_cases h : s.size < t.size
  · refine (ends_no s t w hs ht h).mono fun e w' ⟨he, hw⟩ => ?_
    have e1 : ends s t = false := by simp [ends]; omega
    rw [e1]
    exact ⟨he, 0, hw⟩
  · refine (ends_loop s t (s.size - t.size) w hs ht (by omega)).mono fun e w' ⟨r, he, hw, hr⟩ => ?_
    refine ⟨?_, hw⟩
    rw [he]
    congr 2
    have h2 : t.size ≤ s.size := by omega
    have e1 : ends s t = true ↔ ∀ j, j < t.size → at_ s (s.size - t.size + j) = at_ t j := by simp [ends, h2]
    rw [← e1] at hr
    exact Bool.eq_iff_iff.2 hr

theorem plain_ends : ∀ u : Fin 256, ends (unesc (u.val : Int)) (Utf8.encode (u.val : Int)) = !(ctl (u.val : Int)).2 := by decide +kernel

theorem ends_fact (a : Int) (a0 : 0 ≤ a) (a1 : a ≤ 255) : ends (unesc a) (Utf8.encode a) = !(ctl a).2 := by
  have := plain_ends ⟨a.toNat, by omega⟩
  have e : ((a.toNat : Nat) : Int) = a := by omega
  simpa only [e] using this
theorem unesc_size : ∀ u : Fin 256, (unesc (u.val : Int)).size ≤ 3 := by decide +kernel
theorem unesc_le (a : Int) (a0 : 0 ≤ a) (a1 : a ≤ 255) : (unesc a).size ≤ 3 := by
  have := unesc_size ⟨a.toNat, by omega⟩
  have e : ((a.toNat : Nat) : Int) = a := by omega
  simpa only [e] using this

/-- the law's last row, for whatever a: what endsWith gives is what is wanted. -/
theorem last_row (a : Int) (w : World) (a0 : 0 ≤ a) (a1 : a ≤ 255) :
    Calls Try.prog 16 #[.string (unesc a), .string (Utf8.encode a)] w fun e w' => e = .returned (.bool (!(ctl a).2)) ∧ ∃ q, w' = w.drewN q := by
  rw [← ends_fact a a0 a1]
  exact ends_any _ _ _ (by have := unesc_le a a0 a1; unfold maxLen; omega) (by have := encode_le a a0 a1; unfold maxLen; omega)

set_option maxHeartbeats 1600000 in
theorem un_same (a : Int) (w : World) (a0 : 0 ≤ a) (a1 : a ≤ 255) :
    Calls Try.prog 5 #[.int .u8 a, .int .u8 a] w fun e w' => e = .returned (.bool true) ∧ ∃ q, w' = w.drewN q := by
  go_enter Try.func5, Try.ntmps5
  go_wp2_with (first | (go_at_call 13; go_in) | (go_at_call 19; refine (un_any a _ a0 a1).mono ?_; rintro e w' ⟨rfl, rfl⟩) | (go_at_call 15; refine (ctl_any a _).mono ?_; rintro e w' ⟨rfl, rfl⟩) | (go_at_call 16; refine (last_row a _ a0 a1).mono ?_; rintro e w' ⟨rfl, q, rfl⟩))
  go_ret
  exact ⟨rfl, q, rfl⟩

theorem eq_fact (a b : Int) (a0 : 0 ≤ a) (a1 : a ≤ 255) (b0 : 0 ≤ b) (b1 : b ≤ 255) (hne : a ≠ b) : ((unesc a).toList == (unesc b).toList) = (clash a b || clash b a) := by
  rw [ByteArray.toList_eq, ByteArray.toList_eq]
  exact eq_plain a b a0 a1 b0 b1 hne

set_option maxHeartbeats 1600000 in
theorem un_apart (a b : Int) (w : World) (a0 : 0 ≤ a) (a1 : a ≤ 255) (b0 : 0 ≤ b) (b1 : b ≤ 255) (hab : (a == b) = false) (c1 : clash a b = false) (c2 : clash b a = false) :
    Calls Try.prog 5 #[.int .u8 a, .int .u8 b] w fun e w' => e = .returned (.bool true) ∧ ∃ q, w' = w.drewN q := by
  have hs : ((unesc a).toList == (unesc b).toList) = false := by
    rw [eq_fact a b a0 a1 b0 b1 (by simpa using hab), c1, c2]; rfl
  go_enter Try.func5, Try.ntmps5
  go_wp2_with (first | (go_at_call 13; go_in) | (go_at_call_of 19 (Value.int .u8 a); refine (un_any a _ a0 a1).mono ?_; rintro e w' ⟨rfl, rfl⟩) | (go_at_call_of 19 (Value.int .u8 b); refine (un_any b _ b0 b1).mono ?_; rintro e w' ⟨rfl, rfl⟩))
  refine (clash_any a b _).mono ?_
  rw [c1]
  rintro e w' ⟨rfl, rfl⟩
  go_wp2_with fail
  refine (clash_any b a _).mono ?_
  rw [c2]
  rintro e w' ⟨rfl, rfl⟩
  go_wp2_with (first | (go_at_call 15; refine (ctl_any a _).mono ?_; rintro e w' ⟨rfl, rfl⟩) | (go_at_call 16; refine (last_row a _ a0 a1).mono ?_; rintro e w' ⟨rfl, q, rfl⟩))
  go_ret
  exact ⟨rfl, q, rfl⟩

set_option maxHeartbeats 1600000 in
theorem un_clashA (a b : Int) (w : World) (a0 : 0 ≤ a) (a1 : a ≤ 255) (b0 : 0 ≤ b) (b1 : b ≤ 255) (hab : (a == b) = false) (c1 : clash a b = true) :
    Calls Try.prog 5 #[.int .u8 a, .int .u8 b] w fun e w' => e = .returned (.bool true) ∧ ∃ q, w' = w.drewN q := by
  have hs : ((unesc a).toList == (unesc b).toList) = true := by
    rw [eq_fact a b a0 a1 b0 b1 (by simpa using hab), c1]; rfl
  go_enter Try.func5, Try.ntmps5
  go_wp2_with (first | (go_at_call 13; go_in) | (go_at_call_of 19 (Value.int .u8 a); refine (un_any a _ a0 a1).mono ?_; rintro e w' ⟨rfl, rfl⟩) | (go_at_call_of 19 (Value.int .u8 b); refine (un_any b _ b0 b1).mono ?_; rintro e w' ⟨rfl, rfl⟩))
  refine (clash_any a b _).mono ?_
  rw [c1]
  rintro e w' ⟨rfl, rfl⟩
  go_wp2_with (first | (go_at_call 15; refine (ctl_any a _).mono ?_; rintro e w' ⟨rfl, rfl⟩) | (go_at_call 16; refine (last_row a _ a0 a1).mono ?_; rintro e w' ⟨rfl, q, rfl⟩))
  go_ret
  exact ⟨rfl, q, rfl⟩

set_option maxHeartbeats 1600000 in
theorem un_clashB (a b : Int) (w : World) (a0 : 0 ≤ a) (a1 : a ≤ 255) (b0 : 0 ≤ b) (b1 : b ≤ 255) (hab : (a == b) = false) (c1 : clash a b = false) (c2 : clash b a = true) :
    Calls Try.prog 5 #[.int .u8 a, .int .u8 b] w fun e w' => e = .returned (.bool true) ∧ ∃ q, w' = w.drewN q := by
  have hs : ((unesc a).toList == (unesc b).toList) = true := by
    rw [eq_fact a b a0 a1 b0 b1 (by simpa using hab), c1, c2]; rfl
  go_enter Try.func5, Try.ntmps5
  go_wp2_with (first | (go_at_call 13; go_in) | (go_at_call_of 19 (Value.int .u8 a); refine (un_any a _ a0 a1).mono ?_; rintro e w' ⟨rfl, rfl⟩) | (go_at_call_of 19 (Value.int .u8 b); refine (un_any b _ b0 b1).mono ?_; rintro e w' ⟨rfl, rfl⟩))
  refine (clash_any a b _).mono ?_
  rw [c1]
  rintro e w' ⟨rfl, rfl⟩
  go_wp2_with fail
  refine (clash_any b a _).mono ?_
  rw [c2]
  rintro e w' ⟨rfl, rfl⟩
  go_wp2_with (first | (go_at_call 15; refine (ctl_any a _).mono ?_; rintro e w' ⟨rfl, rfl⟩) | (go_at_call 16; refine (last_row a _ a0 a1).mono ?_; rintro e w' ⟨rfl, q, rfl⟩))
  go_ret
  exact ⟨rfl, q, rfl⟩

theorem un_law (a b : Int) (w : World) (a0 : 0 ≤ a) (a1 : a ≤ 255) (b0 : 0 ≤ b) (b1 : b ≤ 255) :
    Calls Try.prog 5 #[.int .u8 a, .int .u8 b] w fun e w' => e = .returned (.bool true) ∧ ∃ q, w' = w.drewN q := by
  by_cases hab : a = b
  · subst hab
    exact un_same a w a0 a1
  · have hab' : (a == b) = false := by simpa using hab
    cases c1 : clash a b
    · cases c2 : clash b a
      · exact un_apart a b w a0 a1 b0 b1 hab' c1 c2
      · exact un_clashB a b w a0 a1 b0 b1 hab' c1 c2
    · exact un_clashA a b w a0 a1 b0 b1 hab' c1
end Go.Proofs.Qxb6619202a
