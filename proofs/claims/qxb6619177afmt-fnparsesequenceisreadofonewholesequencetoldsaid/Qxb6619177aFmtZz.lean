import Derived.Test.Qxb6619177aFmtRead5
namespace Go.Proofs.Qxb6619177aFmt
open Go.RowKit Go.Extern.Stop Go.Stop Go.Extern
set_option linter.unusedVariables false
set_option linter.unusedSimpArgs false

theorem results_tmp4 {fn : Func} {t u v x : Tmp} (h : fn.results = #[.tmp t, .tmp u, .tmp v, .tmp x]) (tmps : Array Value) (P : Program) (w : World) :
    (results fn tmps).run P w = .ok (.tuple #[tmps.getD t undef, tmps.getD u undef, tmps.getD v undef, tmps.getD x undef]) w := by
  simp [results, h]

/-- WHAT ZZRead LEAVES. -/
def ZzPost (ao : Option Addr) (n : Nat) (xs : List Int) (w : World) : Option (Nat × Nat) → Ending → World → Prop
  | none, e, w' => (∃ p, e = .returned (.tuple #[.slice ao n n, .slice none 0 0, .slice none 0 0, .iface 58 (.pointer (some p))])) ∧ Below w.heap.size w w'
  | some (h, l), e, w' => ∃ a1 c1 a2 c2 a3 c3, e = .returned (.tuple #[.slice a3 (n - (h + l)) c3, .slice a1 (h + l) c1, .slice a2 l c2, .nilIface]) ∧
      Byt w' a1 (h + l) c1 (xs.take (h + l)) ∧ Byt w' a2 l c2 ((xs.take (h + l)).drop h) ∧ Byt w' a3 (n - (h + l)) c3 (xs.drop (h + l)) ∧ Below w.heap.size w w'

theorem lt_of_byt {w : World} {ao : Option Addr} {n cap : Nat} {xs : List Int} (h : Byt w ao n cap xs) (hn : n ≠ 0) : ∀ a, ao = some a → a.block < w.heap.size := by
  obtain ⟨_, _, _, _, h5, _⟩ := h
  obtain ⟨b, off, rfl, hc⟩ := h5 hn
  intro a ha
  obtain rfl := Option.some.inj ha
  exact lt_of_cell (hc 0 (by omega))

set_option maxHeartbeats 800000 in
theorem zz_any (F : Interp) (ao : Option Addr) (n : Nat) (t : Int) (xs : List Int) (w : World) (hF : F.answers w.tape) (h0 : 0 ≤ t) (h1 : t ≤ 255) (hx : Byt w ao n n xs) (hlt : ∀ a, ao = some a → a.block < w.heap.size) (hn : n ≤ 4194304) :
    Calls Tryf.prog 9 #[.slice ao n n, .int .u8 t] w (ZzPost ao n xs w (rd xs t)) := by
  have hx1 : Hid (Byt (w.alloc (.cells #[.slice ao n n] 45)) ao n n xs) := byt_below hx ((Below.refl _ _).alloc (Nat.le_refl _) _)
  clear hx
  go_enter Tryf.func9, Tryf.ntmps9
  go_wp2_with (go_at_call 19; go_in)
  refine (read_any F ao w.heap.size n t xs _ (by exact hF) h0 h1 (by go_simp) (by go_simp) hx1.out hlt hn).mono ?_
  intro e w1 hp
  cases hrd : rd xs t with
  | none =>
    have HR : Hid (rd xs t = none) := hrd
    rw [hrd] at hp
    obtain ⟨p, s, rfl, hc, hb⟩ := hp
    have hr : w1.cell? ⟨w.heap.size, 0, none⟩ = some (.slice ao n n) := by rw [hb.cell (by simp)]; simp
    clear hrd
    go_wp2
    refine bodyPost_ret (results_tmp4 rfl _ _ _) rfl ?_
    rw [HR.out]
    exact ⟨⟨p, rfl⟩, ((Below.refl _ _).alloc (Nat.le_refl _) _).trans (hb.mono (by simp))⟩
  | some r =>
    obtain ⟨h, l⟩ := r
    have HR : Hid (rd xs t = some (h, l)) := hrd
    rw [hrd] at hp
    obtain ⟨a1, c1, a2, c2, a3, c3, rfl, hr, y1, y2, y3, hb⟩ := hp
    clear hrd
    go_wp2
    refine bodyPost_ret (results_tmp4 rfl _ _ _) rfl ?_
    rw [HR.out]
    exact ⟨a1, c1, a2, c2, a3, c3, rfl, y1, y2, y3, ((Below.refl _ _).alloc (Nat.le_refl _) _).trans (hb.mono (Nat.le_refl _))⟩
end Go.Proofs.Qxb6619177aFmt
