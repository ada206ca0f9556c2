import Derived.Test.Qxb6619177aFmtRead4
namespace Go.Proofs.Qxb6619177aFmt
open Go.RowKit Go.Extern.Stop Go.Stop Go.Extern
set_option linter.unusedVariables false
set_option linter.unusedSimpArgs false

theorem byt_under {B : Nat} {w w' : World} {ao : Option Addr} {n cap : Nat} {xs : List Int} (h : Byt w ao n cap xs) (hb : Below B w w') (hlt : ∀ a, ao = some a → a.block < B) : Byt w' ao n cap xs := by
  obtain ⟨h1, h2, h3, h4, h5, h6⟩ := h
  refine ⟨h1, h2, h3, h4, fun hn => ?_, h6⟩
  obtain ⟨b, off, rfl, hc⟩ := h5 hn
  refine ⟨b, off, rfl, fun i hi => ?_⟩
  have hbl : b < B := hlt _ rfl
  rw [hb.cell (p := ⟨b, off + i, none⟩) hbl, hc i hi]

/-- WHAT read LEAVES. -/
def ReadPost (br n : Nat) (xs : List Int) (w : World) : Option (Nat × Nat) → Ending → World → Prop
  | none, e, w' => ReadErr w e w'
  | some (h, l), e, w' => ∃ a1 c1 a2 c2 a3 c3, e = .returned (.tuple #[.slice a1 (h + l) c1, .slice a2 l c2, .nilIface]) ∧ w'.cell? ⟨br, 0, none⟩ = some (.slice a3 (n - (h + l)) c3) ∧
      Byt w' a1 (h + l) c1 (xs.take (h + l)) ∧ Byt w' a2 l c2 ((xs.take (h + l)).drop h) ∧ Byt w' a3 (n - (h + l)) c3 (xs.drop (h + l)) ∧ Below br w w'

theorem readOk_post {br b off n h l : Nat} {xs : List Int} {w w' : World} {e : Ending} (hx : Byt w (some ⟨b, off, none⟩) n n xs) (hbb : b < br) (hl : h + l ≤ n) (hok : ReadOk br b off n n h l w e w') :
    ReadPost br n xs w (some (h, l)) e w' := by
  obtain ⟨he, hc, hb⟩ := hok
  have hx' : Byt w' (some ⟨b, off, none⟩) n n xs := byt_under hx hb (by intro a ha; obtain rfl := Option.some.inj ha; exact hbb)
  have cut : ∀ lo hi, lo ≤ hi → hi ≤ n → Byt w' (some (if n = lo then ⟨b, off, none⟩ else ⟨b, off + lo, none⟩)) (hi - lo) (n - lo) ((xs.take hi).drop lo) := by
    intro lo hi h1 h2
    have := byt_cut hx' h1 h2
    by_cases hc : n = lo
    · simpa only [hc, if_true] using this
    · simp only [hc, if_false, Option.map_some, Addr.add_lit] at this ⊢
      exact this
  have c1 := cut 0 (h + l) (by omega) hl
  have c2 := cut h (h + l) (by omega) hl
  have c3 := cut (h + l) n hl (Nat.le_refl _)
  have e2 : h + l - h = l := by omega
  have hxn := hx.1
  rw [Nat.sub_zero, List.drop_zero] at c1
  rw [e2] at c2
  rw [List.take_of_length_le (by omega)] at c3
  refine ⟨_, _, _, _, _, _, ?_, ?_, c1, c2, c3, hb⟩
  · rw [he]
    simp [cutV, e2]
  · rw [hc]
    rfl

theorem read_any (F : Interp) (ao : Option Addr) (br n : Nat) (t : Int) (xs : List Int) (w : World) (hF : F.answers w.tape) (h0 : 0 ≤ t) (h1 : t ≤ 255) (hr : w.cell? ⟨br, 0, none⟩ = some (.slice ao n n))
    (hfr : w.frozen? ⟨br, 0, none⟩ = false) (hx : Byt w ao n n xs) (hbb : ∀ a, ao = some a → a.block < br) (hn : n ≤ 4194304) :
    Calls Tryf.prog 20 #[.pointer (some ⟨br, 0, none⟩), .int .u8 t] w (ReadPost br n xs w (rd xs t)) := by
  by_cases hn0 : n = 0
  · subst hn0
    have hl := hx.1
    rw [rd, if_pos (by omega)]
    exact read_empty F ao br 0 t w hF h0 h1 hr
  have hx0 := hx
  obtain ⟨hxn, _, _, _, hcx, hbx⟩ := hx
  obtain ⟨b, off, rfl, hc⟩ := hcx hn0
  have hb := hbb _ rfl
  simp only at hb
  have hc0 : w.cell? ⟨b, off, none⟩ = some (.int .u8 (xs.getD 0 0)) := by simpa using hc 0 (by omega)
  have b0 := byte_at hbx 0
  by_cases ht : xs.getD 0 0 = t
  · by_cases h1n : n = 1
    · subst h1n
      rw [rd, if_pos (by omega)]
      exact read_one F br b off 1 t w hF h0 h1 hr (by rw [hc0, ht])
    · have hc0' : w.cell? ⟨b, off, none⟩ = some (.int .u8 t) := by rw [hc0, ht]
      have hc1 : w.cell? ⟨b, off + 1, none⟩ = some (.int .u8 (gb xs 1 : Nat)) := by rw [hc 1 (by omega), gb_cast hbx]
      have g1 := gb_lt hbx 1
      rw [rd, if_neg (by omega)]
      by_cases hs : gb xs 1 < 128
      · rw [if_pos hs]
        by_cases hp : gb xs 1 + 2 ≤ xs.length
        · rw [if_pos hp]
          refine Calls.mono ?_ (fun e w' h => readOk_post hx0 hb (by omega) h)
          by_cases hlt : 2 + gb xs 1 < n
          · exact read_short_a F br b off n (gb xs 1) t w hF h0 h1 hr hfr hc0' hc1 hs hn hlt
          · obtain rfl : n = 2 + gb xs 1 := by omega
            by_cases hL0 : gb xs 1 = 0
            · rw [hL0] at hr hc1 ⊢
              exact read_short_c F br b off t w hF h0 h1 hr hfr hc0' hc1
            · exact read_short_b F br b off (gb xs 1) t w hF h0 h1 hr hfr hc0' hc1 hs (by omega)
        · rw [if_neg hp]
          exact read_short_past F br b off n n (gb xs 1) t w hF h0 h1 hr (by omega) hn hc0' hc1 hs (by omega)
      · rw [if_neg hs]
        obtain ⟨k, hk⟩ : ∃ k, gb xs 1 = 128 + k := ⟨gb xs 1 - 128, by omega⟩
        have ek : gb xs 1 - 128 = k := by omega
        have hc1' : w.cell? ⟨b, off + 1, none⟩ = some (.int .u8 (128 + (k : Int))) := by rw [hc1, hk]; simp
        rw [ek]
        by_cases hk0 : k = 0
        · rw [if_pos (by omega)]
          exact read_indef F br b off n n k t w hF h0 h1 hr (by omega) hn hc0' hc1' (by omega)
        by_cases hk5 : 4 < k
        · rw [if_pos (by omega)]
          exact read_toolong F br b off n n k t w hF h0 h1 hr (by omega) hn hc0' hc1' hk5 (by omega)
        by_cases hkn : n < 2 + k
        · rw [if_pos (by omega)]
          exact read_cutlen F br b off n n k t w hF h0 h1 hr (by omega) hn hc0' hc1' (by omega) (by omega) hkn
        have hc2 : w.cell? ⟨b, off + 2, none⟩ = some (.int .u8 (xs.getD 2 0)) := hc 2 (by omega)
        have hcs : ∀ j, j < k → w.cell? ⟨b, off + 2 + j, none⟩ = some (.int .u8 (xs.getD (j + 2) 0)) := by
          intro j hj
          have := hc (j + 2) (by omega)
          rwa [show off + (j + 2) = off + 2 + j by omega] at this
        have g2 := gb_cast hbx 2
        by_cases hz : gb xs 2 = 0
        · rw [if_pos (by omega)]
          exact read_long_nm1 F br b off n k (be xs k) t (xs.getD 2 0) xs w hF h0 h1 hr hfr hbx hc0' hc1' hc2 hcs (by omega) (by omega) rfl hn (by omega) (by show _ = _; omega)
        have hnz : (xs.getD 2 0 == 0) = false := by
          rw [beq_eq_false_iff_ne]
          omega
        by_cases hm : be xs k < 128
        · rw [if_pos (by omega)]
          exact read_long_nm2 F br b off n k (be xs k) t (xs.getD 2 0) xs w hF h0 h1 hr hfr hbx hc0' hc1' hc2 hcs (by omega) (by omega) rfl hn (by omega) hnz hm
        rw [if_neg (by omega)]
        by_cases hp : be xs k + (2 + k) ≤ xs.length
        · rw [if_pos hp]
          refine Calls.mono ?_ (fun e w' h => readOk_post hx0 hb (by omega) h)
          by_cases hlt : 2 + k + be xs k < n
          · exact read_long_a F br b off n k (be xs k) t (xs.getD 2 0) xs w hF h0 h1 hr hfr hbx hc0' hc1' hc2 hcs (by omega) (by omega) rfl hn hnz (by omega) hlt
          · have en : n = 2 + k + be xs k := by omega
            rw [en] at hr hn ⊢
            exact read_long_b F br b off k (be xs k) t (xs.getD 2 0) xs w hF h0 h1 hr hfr hbx hc0' hc1' hc2 hcs (by omega) (by omega) rfl hn hnz (by omega)
        · rw [if_neg hp]
          exact read_long_past F br b off n k (be xs k) t (xs.getD 2 0) xs w hF h0 h1 hr hfr hbx hc0' hc1' hc2 hcs (by omega) (by omega) rfl hn (by omega) hnz (by omega) (by omega)
  · rw [rd, if_pos (Or.inr ht)]
    exact read_other F br b off n n t (xs.getD 0 0) w hF h0 h1 hr (by omega) hc0 b0.1 b0.2 (by simpa using ht)
end Go.Proofs.Qxb6619177aFmt
