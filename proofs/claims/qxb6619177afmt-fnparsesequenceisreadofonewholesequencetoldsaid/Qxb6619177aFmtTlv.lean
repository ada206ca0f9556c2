import Derived.Test.Qxb6619177aFmtPlain2
namespace Go.Proofs.Qxb6619177aFmt
open Go.RowKit
set_option linter.unusedVariables false
set_option linter.unusedSimpArgs false

theorem encL_len (n : Nat) : (encL n).length ≤ 5 := by
  unfold encL
  split
  · simp
  · rw [encK_length]; have := nb_le n; omega

theorem byt_one {w : World} {t : Int} (h0 : 0 ≤ t) (h1 : t ≤ 255) : Byt (w.alloc (.cells #[.int .u8 t] 5)) (some ⟨w.heap.size, 0, none⟩) 1 1 [t] := by
  refine ⟨rfl, Nat.le_refl _, by omega, by simp, fun _ => ⟨_, 0, rfl, fun i hi => ?_⟩, fun x hx => ?_⟩
  · obtain rfl : i = 0 := by omega
    simp
  · simp at hx; omega

set_option maxHeartbeats 800000 in
/-- derTLV BY ITS CONTRACT. -/
theorem tlv_any (t : Int) (ao : Option Addr) (l cap : Nat) (cs : List Int) (w : World) (h0 : 0 ≤ t) (h1 : t ≤ 255) (hc : Byt w ao l cap cs) (hl : l ≤ 1048576) :
    Calls Tryf.prog 13 #[.int .u8 t, .slice ao l cap] w fun e w' => ∃ g m, e = .returned (.slice (some ⟨g, 0, none⟩) m m) ∧ Byt w' (some ⟨g, 0, none⟩) m m ((t :: encL l) ++ cs) ∧ Below w.heap.size w w' := by
  have hl' : (l : Int) ≤ 1048576 := by omega
  have HC : Hid (Byt w ao l cap cs) := hc
  clear hc
  have b1 : Below w.heap.size w (w.alloc (.cells #[.int .u8 t] 5)) := (Below.refl _ _).alloc (Nat.le_refl _) _
  have B1 := hide_below b1
  clear b1
  go_enter Tryf.func13, Tryf.ntmps13
  go_wp2_with fail
  refine (enc_any l _ (by omega)).mono ?_
  rintro e w2 ⟨g2, rfl, y2, b2⟩
  have b2' : Below w.heap.size w w2 := B1.out.trans (b2.mono (by simp))
  have y1 : Hid (Byt w2 (some ⟨w.heap.size, 0, none⟩) 1 1 [t]) := byt_below (byt_one h0 h1) b2
  have Y2 : Hid (Byt w2 (some ⟨g2, 0, none⟩) (encL l).length (encL l).length (encL l)) := y2
  clear y2
  go_wp2_with fail
  refine (concat_any _ _ _ _ _ _ [t] (encL l) _ y1.out Y2.out (by omega) (by have := encL_len l; omega)).mono ?_
  rintro e w3 ⟨rfl, y3, _, b3⟩
  have b3' : Below w.heap.size w w3 := b2'.trans (b3.mono b2'.size)
  have Y3 : Hid (Byt w3 (some ⟨w2.heap.size, 0, none⟩) (1 + (encL l).length) (1 + (encL l).length) ([t] ++ encL l)) := y3
  clear y3
  go_wp2_with fail
  refine (concat_any _ _ _ _ _ _ ([t] ++ encL l) cs _ Y3.out (byt_below HC.out b3') (by have := encL_len l; omega) (by omega)).mono ?_
  rintro e w4 ⟨rfl, y4, _, b4⟩
  have b4' : Below w.heap.size w w4 := b3'.trans (b4.mono b3'.size)
  go_wp2
  go_ret
  exact ⟨_, _, rfl, by simpa using y4, b4'⟩
end Go.Proofs.Qxb6619177aFmt
