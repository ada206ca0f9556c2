import Derived.Test.Qxb6619177aFmtPlain
import Derived.Deep.RegionWith
namespace Go.Proofs.Qxb6619177aFmt
open Go.RowKit
set_option linter.unusedVariables false
set_option linter.unusedSimpArgs false

/-! ### modelHeader, plainly -/
def mv (xs : List Int) (k : Nat) : Nat := if k = 1 then gb xs 1 else be xs (k - 1)
def Hits (xs : List Int) (k : Nat) : Prop := encL (mv xs k) = (xs.take (1 + k)).drop 1
def mhOut : Option (Nat × Nat) → Value
  | some (h, l) => .tuple #[.bool true, .int .i64 h, .int .i64 l]
  | none => .tuple #[.bool false, .int .i64 0, .int .i64 0]

theorem mv_lt {xs : List Int} (h : ∀ x ∈ xs, 0 ≤ x ∧ x ≤ 255) (k : Nat) (h5 : k ≤ 5) : mv xs k < 4294967296 := by
  unfold mv
  split
  · have := gb_lt h 1; omega
  · exact be_lt h _ (by omega)
theorem hits_iff {xs : List Int} (h : ∀ x ∈ xs, 0 ≤ x ∧ x ≤ 255) (k : Nat) (h1 : 1 ≤ k) (h5 : k ≤ 5) (hl : 1 + k ≤ xs.length) :
    Hits xs k ↔ if k = 1 then gb xs 1 < 128 else gb xs 1 = 128 + (k - 1) ∧ gb xs 2 ≠ 0 ∧ 128 ≤ be xs (k - 1) := by
  unfold Hits mv
  by_cases hk : k = 1
  · subst hk
    simpa using hit_one h hl
  · rw [if_neg hk, if_neg hk]
    obtain ⟨j, rfl⟩ : ∃ j, k = j + 1 := ⟨k - 1, by omega⟩
    have e : 1 + (j + 1) = 2 + j := by omega
    rw [e]
    exact hit_more h j (by omega) (by omega) (by omega)
/-- a hit: what is read. -/
theorem rd_hit {xs : List Int} (h : ∀ x ∈ xs, 0 ≤ x ∧ x ≤ 255) (k : Nat) (h1 : 1 ≤ k) (h5 : k ≤ 5) (hl : 1 + k ≤ xs.length) (hh : Hits xs k) :
    rd xs (xs.getD 0 0) = if mv xs k + (1 + k) ≤ xs.length then some (1 + k, mv xs k) else none := by
  rw [hits_iff h k h1 h5 hl] at hh
  unfold rd
  rw [if_neg (by simp; omega)]
  by_cases hk : k = 1
  · subst hk
    rw [if_pos rfl] at hh
    rw [if_pos hh]
    simp [mv]
  · rw [if_neg hk] at hh
    obtain ⟨a, b, c⟩ := hh
    have e : gb xs 1 - 128 = k - 1 := by omega
    rw [if_neg (by omega), e, if_neg (by omega)]
    have e2 : 2 + (k - 1) = 1 + k := by omega
    simp [mv, hk, e2]
/-- no hit till the end. -/
theorem rd_miss {xs : List Int} (h : ∀ x ∈ xs, 0 ≤ x ∧ x ≤ 255) (k : Nat) (h2 : 2 ≤ xs.length) (h1 : 1 ≤ k) (hend : 6 ≤ k ∨ xs.length < 1 + k) (hm : ∀ j, 1 ≤ j → j < k → ¬ Hits xs j) :
    rd xs (xs.getD 0 0) = none := by
  have hk2 : 2 ≤ k := by omega
  have m1 := hm 1 (by omega) (by omega)
  rw [hits_iff h 1 (by omega) (by omega) (by omega), if_pos rfl] at m1
  unfold rd
  rw [if_neg (by simp; omega), if_neg m1]
  have hlt := gb_lt h 1
  by_cases hc : gb xs 1 = 128 ∨ 132 < gb xs 1 ∨ xs.length + 128 < 2 + gb xs 1
  · rw [if_pos (by omega)]
  · have mm := hm (gb xs 1 - 128 + 1) (by omega) (by omega)
    rw [hits_iff h _ (by omega) (by omega) (by omega), if_neg (by omega)] at mm
    have e : gb xs 1 - 128 + 1 - 1 = gb xs 1 - 128 := by omega
    rw [e] at mm
    rw [if_pos]
    by_cases h0 : gb xs 2 = 0
    · omega
    · by_cases hb : 128 ≤ be xs (gb xs 1 - 128)
      · exact absurd ⟨by omega, h0, hb⟩ mm
      · omega

set_option maxRecDepth 100000 in
set_option maxHeartbeats 1600000 in
theorem mh_short (a : Option Addr) (n cap : Nat) (tag : Int) (w : World) (hn : n < 2) :
    Calls Tryf.prog 10 #[.slice a n cap, .int .u8 tag] w fun e w' => e = .returned (mhOut none) ∧ w' = w := by
  have hd : (n : Int) < 2 := by omega
  go_enter Tryf.func10, Tryf.ntmps10
  go_wp2
  go_ret3
  exact ⟨rfl, rfl⟩

set_option maxRecDepth 100000 in
set_option maxHeartbeats 1600000 in
theorem mh_other (b off n cap : Nat) (c0 tag : Int) (w : World) (hn : 2 ≤ n) (hc : w.cell? ⟨b, off, none⟩ = some (.int .u8 c0)) (ht : (c0 != tag) = true) :
    Calls Tryf.prog 10 #[.slice (some ⟨b, off, none⟩) n cap, .int .u8 tag] w fun e w' => e = .returned (mhOut none) ∧ w' = w := by
  have h0' : (0 : Int) < (n : Int) := by omega
  have hd : decide ((n : Int) < 2) = false := by simp; omega
  go_enter Tryf.func10, Tryf.ntmps10
  go_wp2
  go_ret3
  exact ⟨rfl, rfl⟩

set_option maxRecDepth 100000 in
set_option maxHeartbeats 1600000 in
theorem mh_try (b off n cap : Nat) (tag : Int) (xs : List Int) (w : World) (hx : Byt w (some ⟨b, off, none⟩) n cap xs) (hn : n ≤ 1048576) (h2 : 2 ≤ n) (ht : xs.getD 0 0 = tag) :
    Calls Tryf.prog 10 #[.slice (some ⟨b, off, none⟩) n cap, .int .u8 tag] w fun e w' => e = .returned (mhOut (rd xs tag)) ∧ Below w.heap.size w w' := by
  have hx0 : Hid (Byt w (some ⟨b, off, none⟩) n cap xs) := hx
  obtain ⟨hxn, hnc, hcm, _, hcx, hbx⟩ := hx
  obtain ⟨b', off', hbo, hc⟩ := hcx (by omega)
  obtain ⟨rfl, rfl⟩ : b' = b ∧ off' = off := by simp at hbo; omega
  clear hbo hcx
  have HXN : Hid (xs.length = n) := hxn
  have HBX : Hid (∀ x ∈ xs, 0 ≤ x ∧ x ≤ 255) := hbx
  have HC : Hid (∀ i, i < n → w.cell? ⟨b', off' + i, none⟩ = some (.int .u8 (xs.getD i 0))) := hc
  have hc0 : w.cell? ⟨b', off', none⟩ = some (.int .u8 tag) := by rw [← ht]; simpa using hc 0 (by omega)
  have HT : Hid (xs.getD 0 0 = tag) := ht
  clear hxn hbx hc ht
  have h2' : (1 : Int) < (n : Int) := by omega
  have h0' : (0 : Int) < (n : Int) := by omega
  have hd : decide ((n : Int) < 2) = false := by simp; omega
  go_enter Tryf.func10, Tryf.ntmps10
  go_wp2
  go_loopw [7, 8, 9] (fun wd v i wr => ∃ k : Nat, 1 ≤ k ∧ k ≤ 6 ∧ wd = .int .i64 k ∧ Hid (∀ j, 1 ≤ j → j < k → ¬ Hits xs j) ∧ Below w.heap.size w wr) (fun wd _ _ _ => 6 - (intOf wd).toNat)
  case atStart => exact ⟨1, by omega, by omega, rfl, fun j h1 h2 => by omega, Below.refl _ _⟩
  case round =>
    obtain ⟨k, hk1, hk6, rfl, hmiss, hbel⟩ := hrel
    by_cases h6 : k = 6
    · go_wp2
      go_ret3
      refine ⟨?_, hbel⟩
      rw [← HT.out, rd_miss HBX.out k (by rw [HXN.out]; exact h2) hk1 (by omega) hmiss.out]
      rfl
    · by_cases hlen : n < 1 + k
      · go_wp2
        go_ret3
        refine ⟨?_, hbel⟩
        rw [← HT.out, rd_miss HBX.out k (by rw [HXN.out]; exact h2) hk1 (by rw [HXN.out]; omega) hmiss.out]
        rfl
      · by_cases hk : k = 1
        · have hk1' : k ≤ 1 := by omega
          clear hk
          obtain ⟨v, hve⟩ : ∃ v, v = gb xs 1 := ⟨_, rfl⟩
          have hc1r : wr.cell? ⟨b', off' + 1, none⟩ = some (.int .u8 (v : Int)) := by
            have := HC.out 1 (by omega)
            rw [hbel.cell (lt_of_cell this), this, hve, gb_cast HBX.out]
          have hv255 : (v : Int) ≤ 255 := by have := gb_lt HBX.out 1; omega
          have HV : Hid (v = mv xs k) := by show _ = _; rw [hve, mv, if_pos (by omega)]
          clear hve
          have hcap1 : ¬ cap = 1 := by omega
          have hkc : (1 : Int) + (k : Int) ≤ (cap : Int) := by omega
          have hkk : (1 : Int) ≤ 1 + (k : Int) := by omega
          have hwr : IntKind.i64.wrap (1 + (k : Int)) = 1 + (k : Int) := by simp [IntKind.wrap, IntKind.bits, IntKind.signed]; omega
          have HCUT : Hid (∀ W, Below w.heap.size w W → Byt W (some ⟨b', off' + 1, none⟩) ((1 + (k : Int)).toNat - 1) (cap - 1) ((xs.take (1 + k)).drop 1)) := by
            intro W hW
            have := byt_cut (byt_below hx0.out hW) (lo := 1) (hi := 1 + k) (by omega) (by omega)
            simp only [hcap1, if_false, Option.map_some, Addr.add] at this
            have e : (1 + (k : Int)).toNat = 1 + k := by omega
            rw [e]
            exact this
          by_cases hh : Hits xs k
          · have HH : Hid (encL v = (xs.take (1 + k)).drop 1) := by show _ = _; rw [HV.out]; exact hh
            have HR : Hid (rd xs tag = if mv xs k + (1 + k) ≤ xs.length then some (1 + k, mv xs k) else none) := by
              show _ = _
              rw [← HT.out]; exact rd_hit HBX.out k hk1 (by omega) (by rw [HXN.out]; omega) hh
            clear hh
            go_wp2
            go_region_with (first | (go_at_call 21; refine (enc_any _ _ (by rw [HV.out]; exact mv_lt HBX.out k (by omega))).mono ?_; rintro e w' ⟨g, rfl, hby, hbel'⟩) | (go_at_call 11; refine (eq_yes _ _ _ _ _ _ (encL v) ((xs.take (1 + k)).drop 1) _ ?_ ?_ HH.out).mono ?_; exact hby; exact HCUT.out _ (hbel.drew.trans (hbel'.mono (by have := hbel.size; simpa using this))); rintro e w'' ⟨rfl, q, rfl⟩))
            have hbf : Below w.heap.size w (w'.drewN q) := below_drewN (hbel.drew.trans (hbel'.mono (by have := hbel.size; simpa using this))) q
            have hnk : (0 : Int) ≤ (n : Int) - 1 - (k : Int) := by omega
            by_cases hv2 : v + (1 + k) ≤ n
            · have hv3 : (v : Int) ≤ (n : Int) - 1 - (k : Int) := by omega
              go_wp2
              go_ret3
              refine ⟨?_, hbf⟩
              rw [HR.out, ← HV.out, HXN.out, if_pos hv2]
              simp [mhOut]
            · have hv3 : (n : Int) - 1 - (k : Int) < (v : Int) := by omega
              go_wp2
              go_ret3
              refine ⟨?_, hbf⟩
              rw [HR.out, ← HV.out, HXN.out, if_neg hv2]
              rfl
          · have HH : Hid (¬ encL v = (xs.take (1 + k)).drop 1) := by show ¬ _; rw [HV.out]; exact hh
            have HN : Hid (¬ Hits xs k) := hh
            clear hh
            go_wp2
            go_region_with (first | (go_at_call 21; refine (enc_any _ _ (by rw [HV.out]; exact mv_lt HBX.out k (by omega))).mono ?_; rintro e w' ⟨g, rfl, hby, hbel'⟩) | (go_at_call 11; refine (eq_no _ _ _ _ _ _ (encL v) ((xs.take (1 + k)).drop 1) _ ?_ ?_ HH.out).mono ?_; exact hby; exact HCUT.out _ (hbel.drew.trans (hbel'.mono (by have := hbel.size; simpa using this))); rintro e w'' ⟨rfl, q, rfl⟩))
            have hbf : Below w.heap.size w (w'.drewN q) := below_drewN (hbel.drew.trans (hbel'.mono (by have := hbel.size; simpa using this))) q
            go_wp2
            go_roundw
            case rel =>
              refine ⟨k + 1, by omega, by omega, by go_num, fun j h1 h2 => ?_, hbf⟩
              by_cases hj : j < k
              · exact hmiss.out j h1 hj
              · obtain rfl : j = k := by omega
                exact HN.out
            case measure => simp [intOf]; omega
        · go_wp2
          go_loopw [8, 9] (fun v i wq => ∃ j v' : Nat, j ≤ k - 1 ∧ i = .int .i64 ((j + 2 : Nat) : Int) ∧ v = .int .u64 v' ∧ Hid (v' = be xs j) ∧ wq = wr) (fun _ i _ => k + 1 - (intOf i).toNat)
          case atStart => exact ⟨0, 0, by omega, rfl, rfl, rfl, rfl⟩
          case round =>
            obtain ⟨j, v, hj, rfl, rfl, hv, rfl⟩ := hrel
            by_cases hjk : j < k - 1
            · obtain ⟨c, hce⟩ : ∃ c, c = xs.getD (j + 2) 0 := ⟨_, rfl⟩
              have hcj : wr.cell? ⟨b', off' + (j + 2), none⟩ = some (.int .u8 c) := by
                have := HC.out (j + 2) (by omega)
                rw [hbel.cell (lt_of_cell this), this, hce]
              have HCE : Hid (c = xs.getD (j + 2) 0) := hce
              obtain ⟨hb1a, hb1b⟩ : 0 ≤ c ∧ c ≤ 255 := by rw [hce]; exact byte_at HBX.out _
              clear hce
              have HV : Hid (v < 4294967296) := by have := be_lt HBX.out j (by omega); rw [← hv.out] at this; exact this
              go_wp2
              go_roundw
              case rel => exact ⟨j + 1, v * 256 + c.toNat, by omega, by go_num, by rw [step_be v c HV.out hb1a hb1b], by show _ = _; rw [be, ← hv.out, HCE.out]; rfl, by first | rfl | trivial⟩
              case measure => simp [intOf]; omega
            · have hjk' : j = k - 1 := by omega
              have HV : Hid (v = mv xs k) := by show _ = _; rw [hv.out, mv, if_neg hk, hjk']
              have hge : k - 1 ≤ j := by omega
              clear hjk hv hjk'
              have hcap1 : ¬ cap = 1 := by omega
              have hkc : (1 : Int) + (k : Int) ≤ (cap : Int) := by omega
              have hkk : (1 : Int) ≤ 1 + (k : Int) := by omega
              have hwr : IntKind.i64.wrap (1 + (k : Int)) = 1 + (k : Int) := by simp [IntKind.wrap, IntKind.bits, IntKind.signed]; omega
              have HCUT : Hid (∀ W, Below w.heap.size w W → Byt W (some ⟨b', off' + 1, none⟩) ((1 + (k : Int)).toNat - 1) (cap - 1) ((xs.take (1 + k)).drop 1)) := by
                intro W hW
                have := byt_cut (byt_below hx0.out hW) (lo := 1) (hi := 1 + k) (by omega) (by omega)
                simp only [hcap1, if_false, Option.map_some, Addr.add] at this
                have e : (1 + (k : Int)).toNat = 1 + k := by omega
                rw [e]
                exact this
              by_cases hh : Hits xs k
              · have HH : Hid (encL v = (xs.take (1 + k)).drop 1) := by show _ = _; rw [HV.out]; exact hh
                have HR : Hid (rd xs tag = if mv xs k + (1 + k) ≤ xs.length then some (1 + k, mv xs k) else none) := by
                  show _ = _
                  rw [← HT.out]; exact rd_hit HBX.out k hk1 (by omega) (by rw [HXN.out]; omega) hh
                clear hh
                go_wp2
                go_region_with (first | (go_at_call 21; refine (enc_any _ _ (by rw [HV.out]; exact mv_lt HBX.out k (by omega))).mono ?_; rintro e w' ⟨g, rfl, hby, hbel'⟩) | (go_at_call 11; refine (eq_yes _ _ _ _ _ _ (encL v) ((xs.take (1 + k)).drop 1) _ ?_ ?_ HH.out).mono ?_; exact hby; exact HCUT.out _ (hbel.drew.trans (hbel'.mono (by have := hbel.size; simpa using this))); rintro e w'' ⟨rfl, q, rfl⟩))
                have hbf : Below w.heap.size w (w'.drewN q) := below_drewN (hbel.drew.trans (hbel'.mono (by have := hbel.size; simpa using this))) q
                have hnk : (0 : Int) ≤ (n : Int) - 1 - (k : Int) := by omega
                by_cases hv2 : v + (1 + k) ≤ n
                · have hv3 : (v : Int) ≤ (n : Int) - 1 - (k : Int) := by omega
                  go_wp2
                  go_ret3
                  refine ⟨?_, hbf⟩
                  rw [HR.out, ← HV.out, HXN.out, if_pos hv2]
                  simp [mhOut]
                · have hv3 : (n : Int) - 1 - (k : Int) < (v : Int) := by omega
                  go_wp2
                  go_ret3
                  refine ⟨?_, hbf⟩
                  rw [HR.out, ← HV.out, HXN.out, if_neg hv2]
                  rfl
              · have HH : Hid (¬ encL v = (xs.take (1 + k)).drop 1) := by show ¬ _; rw [HV.out]; exact hh
                have HN : Hid (¬ Hits xs k) := hh
                clear hh
                go_wp2
                go_region_with (first | (go_at_call 21; refine (enc_any _ _ (by rw [HV.out]; exact mv_lt HBX.out k (by omega))).mono ?_; rintro e w' ⟨g, rfl, hby, hbel'⟩) | (go_at_call 11; refine (eq_no _ _ _ _ _ _ (encL v) ((xs.take (1 + k)).drop 1) _ ?_ ?_ HH.out).mono ?_; exact hby; exact HCUT.out _ (hbel.drew.trans (hbel'.mono (by have := hbel.size; simpa using this))); rintro e w'' ⟨rfl, q, rfl⟩))
                have hbf : Below w.heap.size w (w'.drewN q) := below_drewN (hbel.drew.trans (hbel'.mono (by have := hbel.size; simpa using this))) q
                go_wp2
                go_roundw
                case rel =>
                  refine ⟨k + 1, by omega, by omega, by go_num, fun j h1 h2 => ?_, hbf⟩
                  by_cases hj : j < k
                  · exact hmiss.out j h1 hj
                  · obtain rfl : j = k := by omega
                    exact HN.out
                case measure => simp [intOf]; omega
end Go.Proofs.Qxb6619177aFmt
