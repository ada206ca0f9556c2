import Derived.Test.Qxb6619177aFmtTlv
namespace Go.Proofs.Qxb6619177aFmt
open Go.RowKit Go.Extern.Stop Go.Stop Go.Extern
set_option linter.unusedVariables false
set_option linter.unusedSimpArgs false

theorem lt_of_cell' {w : World} {p : Addr} {v : Value} (h : w.cell? p = some v) : p.block < w.heap.size := by
  by_cases hb : p.block < w.heap.size
  · exact hb
  · simp [World.cell?, hb] at h

/-- An error of errors.New's make, alive in w'. -/
def IsErr (w' : World) (v : Value) : Prop := ∃ p s, v = .iface 58 (.pointer (some p)) ∧ w'.cell? p = some (.string s)

/-- WHAT ReadSequence LEAVES. -/
def SeqPost (br n : Nat) (xs : List Int) (w : World) : Option (Nat × Nat) → Ending → World → Prop
  | none, e, w' => ∃ v, e = .returned (.tuple #[.pointer none, v]) ∧ IsErr w' v ∧ Below w.heap.size w w'
  | some (h, l), e, w' => ∃ br' a2 c2 a3 c3, e = .returned (.tuple #[.pointer (some ⟨br', 0, none⟩), .nilIface]) ∧ w'.cell? ⟨br', 0, none⟩ = some (.slice a2 l c2) ∧ w'.cell? ⟨br, 0, none⟩ = some (.slice a3 (n - (h + l)) c3) ∧
      Byt w' a2 l c2 ((xs.take (h + l)).drop h) ∧ Below br w w'

set_option maxHeartbeats 800000 in
theorem seq_any (F : Interp) (ao : Option Addr) (br n : Nat) (xs : List Int) (w : World) (hF : F.answers w.tape) (hr : w.cell? ⟨br, 0, none⟩ = some (.slice ao n n))
    (hfr : w.frozen? ⟨br, 0, none⟩ = false) (hx : Byt w ao n n xs) (hbb : ∀ a, ao = some a → a.block < br) (hn : n ≤ 4194304) :
    Calls Tryf.prog 22 #[.pointer (some ⟨br, 0, none⟩)] w (SeqPost br n xs w (rd xs 48)) := by
  have HX : Hid (Byt w ao n n xs) := hx
  clear hx
  go_enter Tryf.func22, Tryf.ntmps22
  go_wp2_with fail
  refine (read_any F ao br n 48 xs _ hF (by omega) (by omega) hr hfr HX.out hbb hn).mono ?_
  intro e w1 hp
  cases hrd : rd xs 48 with
  | none =>
    have HR : Hid (rd xs 48 = none) := hrd
    rw [hrd] at hp
    obtain ⟨p, s, rfl, hc, hb⟩ := hp
    clear hrd
    go_wp2
    go_ret2
    rw [HR.out]
    exact ⟨_, rfl, ⟨p, s, rfl, hc⟩, hb⟩
  | some r =>
    obtain ⟨h, l⟩ := r
    have HR : Hid (rd xs 48 = some (h, l)) := hrd
    rw [hrd] at hp
    obtain ⟨a1, c1, a2, c2, a3, c3, rfl, hc, y1, y2, y3, hb⟩ := hp
    have Y2 : Hid (Byt w1 a2 l c2 ((xs.take (h + l)).drop h)) := y2
    have hlt : br < w1.heap.size := lt_of_cell hc
    clear hrd y1 y2 y3
    go_wp2
    go_ret2
    rw [HR.out]
    refine ⟨w1.heap.size, a2, c2, a3, c3, rfl, by simp, ?_, byt_below Y2.out ((Below.refl _ _).alloc (Nat.le_refl _) _), hb.alloc (by omega) _⟩
    rw [World.cell?_alloc_past _ _ _ hlt]
    exact hc

set_option maxHeartbeats 800000 in
theorem end_nil (a3 : Option Addr) (br c3 : Nat) (w : World) (hr : w.cell? ⟨br, 0, none⟩ = some (.slice a3 0 c3)) :
    Calls Tryf.prog 24 #[.pointer (some ⟨br, 0, none⟩)] w fun e w' => e = .returned .nilIface ∧ w' = w := by
  go_enter Tryf.func24, Tryf.ntmps24
  go_wp2
  go_ret
  exact ⟨rfl, rfl⟩

set_option maxHeartbeats 800000 in
theorem end_one (a3 : Option Addr) (br c3 : Nat) (w : World) (hr : w.cell? ⟨br, 0, none⟩ = some (.slice a3 1 c3)) :
    Calls Tryf.prog 24 #[.pointer (some ⟨br, 0, none⟩)] w fun e w' => ∃ v, e = .returned v ∧ IsErr w' v ∧ Below w.heap.size w w' := by
  go_enter Tryf.func24, Tryf.ntmps24
  go_wp2
  go_ret
  exact ⟨_, rfl, ⟨⟨w.heap.size, 0, none⟩, ⟨#[49, 32, 98, 121, 116, 101, 32, 111, 102, 32, 116, 114, 97, 105, 108, 105, 110, 103, 32, 100, 97, 116, 97]⟩, rfl, by go_simp⟩, (Below.refl _ _).alloc (Nat.le_refl _) _⟩

set_option maxHeartbeats 800000 in
theorem end_more (F : Interp) (a3 : Option Addr) (br k c3 : Nat) (w : World) (hF : F.answers w.tape) (hk : 2 ≤ k) (hk2 : k ≤ 4194304) (hr : w.cell? ⟨br, 0, none⟩ = some (.slice a3 k c3)) :
    Calls Tryf.prog 24 #[.pointer (some ⟨br, 0, none⟩)] w fun e w' => ∃ v, e = .returned v ∧ IsErr w' v ∧ Below w.heap.size w w' := by
  have h0 : ((k : Int) == 0) = false := by simp; omega
  have h1 : ((k : Int) == 1) = false := by simp; omega
  go_enter Tryf.func24, Tryf.ntmps24
  go_wp2_with (go_at_call 23; refine (errorf_d0 F (k : Int) _ _ (by exact hF) (by go_simp)).mono ?_; rintro e w2 ⟨s, rfl, rfl⟩)
  go_ret
  exact ⟨_, rfl, ⟨_, s, rfl, by go_simp⟩, (((Below.refl _ _).alloc (Nat.le_refl _) _).alloc (by simp) _).drew⟩

theorem end_some (F : Interp) (a3 : Option Addr) (br k c3 : Nat) (w : World) (hF : F.answers w.tape) (hk : 1 ≤ k) (hk2 : k ≤ 4194304) (hr : w.cell? ⟨br, 0, none⟩ = some (.slice a3 k c3)) :
    Calls Tryf.prog 24 #[.pointer (some ⟨br, 0, none⟩)] w fun e w' => ∃ v, e = .returned v ∧ IsErr w' v ∧ Below w.heap.size w w' := by
  by_cases h1 : k = 1
  · subst h1
    exact end_one a3 br c3 w hr
  · exact end_more F a3 br k c3 w hF (by omega) hk2 hr

/-- WHETHER ParseSequence ACCEPTS, and what it gives: the header's and the contents' length. -/
def ps (xs : List Int) : Option (Nat × Nat) :=
  match rd xs 48 with
  | some (h, l) => if h + l = xs.length then some (h, l) else none
  | none => none

/-- WHAT ParseSequence LEAVES. -/
def ParsePost (xs : List Int) (w : World) : Option (Nat × Nat) → Ending → World → Prop
  | none, e, w' => ∃ p, e = .returned (.tuple #[.pointer none, .iface 58 (.pointer (some p))]) ∧ Below w.heap.size w w'
  | some (h, l), e, w' => ∃ br' a2 c2, e = .returned (.tuple #[.pointer (some ⟨br', 0, none⟩), .nilIface]) ∧ w'.cell? ⟨br', 0, none⟩ = some (.slice a2 l c2) ∧ Byt w' a2 l c2 ((xs.take (h + l)).drop h) ∧ Below w.heap.size w w'

set_option maxHeartbeats 1600000 in
theorem parse_any (F : Interp) (ao : Option Addr) (n : Nat) (nm : ByteArray) (xs : List Int) (w : World) (hF : F.answers w.tape) (hx : Byt w ao n n xs) (hlt : ∀ a, ao = some a → a.block < w.heap.size) (hn : n ≤ 4194304) :
    Calls Tryf.prog 16 #[.slice ao n n, .string nm] w (ParsePost xs w (ps xs)) := by
  have hx1 : Hid (Byt (w.alloc (.cells #[.slice ao n n] 45)) ao n n xs) := byt_below hx ((Below.refl _ _).alloc (Nat.le_refl _) _)
  have b0 : Below w.heap.size w (w.alloc (.cells #[.slice ao n n] 45)) := (Below.refl _ _).alloc (Nat.le_refl _) _
  have B0 := hide_below b0
  have HL : Hid (xs.length = n) := hx.1
  clear hx b0
  go_enter Tryf.func16, Tryf.ntmps16
  go_wp2_with (go_at_call 19; go_in)
  refine (seq_any F ao w.heap.size n xs _ (by exact hF) (by go_simp) (by go_simp) hx1.out hlt hn).mono ?_
  intro e w1 hp
  cases hrd : rd xs 48 with
  | none =>
    have HR : Hid (ps xs = none) := by show _ = _; simp [ps, hrd]
    rw [hrd] at hp
    obtain ⟨v, rfl, ⟨p, s, rfl, hc⟩, hb⟩ := hp
    have hb' : Below w.heap.size w w1 := B0.out.trans (hb.mono (by simp))
    have hF1 : F.answers w1.tape := by rw [hb'.tape]; exact hF
    have hpl := lt_of_cell' hc
    clear hrd
    go_wp2_with (go_at_call 23; refine (errorf_se F nm p s _ _ (by exact hF1) (by go_simp) (by go_simp) ((((Below.refl _ w1).alloc (Nat.le_refl _) _).cell hpl).trans hc)).mono ?_; rintro e w2 ⟨s2, rfl, rfl⟩)
    go_ret2
    rw [HR.out]
    have := hb'.size
    exact ⟨_, rfl, ((hb'.alloc this _).alloc (by simp; omega) _).drew⟩
  | some r =>
    obtain ⟨h, l⟩ := r
    obtain ⟨r1, r2, r3⟩ := rd_le hrd
    rw [HL.out] at r2
    rw [hrd] at hp
    obtain ⟨br', a2, c2, a3, c3, rfl, hc2, hc3, y2, hb⟩ := hp
    have hb' : Below w.heap.size w w1 := B0.out.trans (hb.mono (Nat.le_refl _))
    have hF1 : F.answers w1.tape := by rw [hb'.tape]; exact hF
    have Y2 : Hid (Byt w1 a2 l c2 ((xs.take (h + l)).drop h)) := y2
    clear y2
    by_cases he : h + l = n
    · have HR : Hid (ps xs = some (h, l)) := by show _ = _; simp [ps, hrd, HL.out, he]
      have hz : n - (h + l) = 0 := by omega
      rw [hz] at hc3
      clear hrd hz he
      go_wp2_with fail
      refine (end_nil a3 w.heap.size c3 w1 hc3).mono ?_
      rintro e w2 ⟨rfl, rfl⟩
      go_wp2
      go_ret2
      rw [HR.out]
      exact ⟨br', a2, c2, rfl, hc2, Y2.out, hb'⟩
    · have HR : Hid (ps xs = none) := by show _ = _; simp [ps, hrd, HL.out, he]
      clear hrd
      go_wp2_with fail
      refine (end_some F a3 w.heap.size (n - (h + l)) c3 w1 hF1 (by omega) (by omega) hc3).mono ?_
      rintro e w2 ⟨v, rfl, ⟨p, s, rfl, hc⟩, hb2⟩
      have hb'' : Below w.heap.size w w2 := hb'.trans (hb2.mono hb'.size)
      have hF2 : F.answers w2.tape := by rw [hb2.tape]; exact hF1
      have hpl := lt_of_cell' hc
      go_wp2_with (go_at_call 23; refine (errorf_af F nm p s _ _ (by exact hF2) (by go_simp) (by go_simp) ((((Below.refl _ w2).alloc (Nat.le_refl _) _).cell hpl).trans hc)).mono ?_; rintro e w3 ⟨s2, rfl, rfl⟩)
      go_ret2
      rw [HR.out]
      have := hb''.size
      exact ⟨_, rfl, ((hb''.alloc this _).alloc (by simp; omega) _).drew⟩

theorem zzb_any (br : Nat) (v : Value) (w : World) (hc : w.cell? ⟨br, 0, none⟩ = some v) :
    Calls Tryf.prog 17 #[.pointer (some ⟨br, 0, none⟩)] w fun e w' => e = .returned v ∧ w' = w := by
  go_enter Tryf.func17, Tryf.ntmps17
  go_wp2
  go_ret
  exact ⟨rfl, rfl⟩
end Go.Proofs.Qxb6619177aFmt
