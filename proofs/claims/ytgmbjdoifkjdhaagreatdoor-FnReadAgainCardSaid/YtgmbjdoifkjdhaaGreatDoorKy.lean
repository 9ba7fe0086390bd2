/- The slow road's set: some decimal, or none. -/
import Derived.Test.YtgmbjdoifkjdhaaGreatDoorKx
import Derived.Test.YtgmbjdoifkjdhaaGreatDoorKu
import Derived.StillTailTactics
namespace Go.Proofs.YtgmbjdoifkjdhaaGreatDoor
open Go.RowKit

/-- A decimal under way. -/
structure DsSt (L p i : Nat) (w wr : World) : Prop where
  ex : ∃ (f : Nat → Nat) (nd : Nat) (dp : Int), Dc wr p f nd dp ∧ DcOk f nd ∧ -(i : Int) ≤ dp ∧ dp ≤ 800
  below : Below L w wr
theorem DsSt.drewN {L p i : Nat} {w wr : World} (h : DsSt L p i w wr) (n : Nat) : DsSt L p i w (wr.drewN n) := by
  obtain ⟨⟨f, nd, dp, h1, h2⟩, hb⟩ := h
  exact ⟨⟨f, nd, dp, h1.drewN n, h2⟩, below_drewN hb n⟩
theorem DsSt.mono {L p i j : Nat} {w wr : World} (h : DsSt L p i w wr) (hij : i ≤ j) : DsSt L p j w wr := by
  obtain ⟨⟨f, nd, dp, h1, h2, h3, h4⟩, hb⟩ := h
  exact ⟨⟨f, nd, dp, h1, h2, by omega, h4⟩, hb⟩
def DsOut (p : Nat) (w' : World) : Prop := ∃ (f : Nat → Nat) (nd : Nat) (dp : Int), Dc w' p f nd dp ∧ DcOk f nd ∧ -2199023255552 ≤ dp ∧ dp ≤ 2199023255552
theorem DsSt.out {L p i : Nat} {w wr : World} (h : DsSt L p i w wr) (hi : i ≤ 1099511627777) : DsOut p wr ∧ Below L w wr := by
  obtain ⟨⟨f, nd, dp, h1, h2, h3, h4⟩, hb⟩ := h
  exact ⟨⟨f, nd, dp, h1, h2, by omega, by omega⟩, hb⟩
theorem dcok_more {f : Nat → Nat} {nd c : Nat} (h : DcOk f nd) (h8 : nd < 800) (hc : 48 ≤ c ∧ c ≤ 57) (h0 : nd = 0 → c ≠ 48) : DcOk (upd f nd c) (nd + 1) := by
  refine ⟨by omega, fun i hi => ?_, fun i hi => ?_, fun _ => ?_⟩
  · unfold upd
    by_cases he : i = nd
    · rw [if_pos he]; omega
    · rw [if_neg he]; exact h.byte i hi
  · unfold upd
    by_cases he : i = nd
    · rw [if_pos he]; omega
    · rw [if_neg he]; exact h.dig i (by omega)
  · unfold upd
    by_cases he : 0 = nd
    · rw [if_pos he]; exact h0 he.symm
    · rw [if_neg he]; exact h.first (by omega)
set_option maxRecDepth 100000 in
set_option maxHeartbeats 40000000 in
theorem dset_any (L p : Nat) (f0 : Nat → Nat) (s : ByteArray) (w : World) (h : Dc w p f0 0 0) (hf : ∀ i, i < 800 → f0 i < 256) (hs : s.size ≤ 1099511627776) (hL : L ≤ p) :
    Calls Tryz.prog 140 #[.pointer (some ⟨p, 0, none⟩), .string s] w fun e w' => (∃ v, e = .returned v ∧ IsB v) ∧ DsOut p w' ∧ Below L w w' := by
  have hz2 := h.fz 802
  have hz3 := h.fz 803
  obtain ⟨b2, hc2⟩ := h.cneg
  obtain ⟨b3, hc3⟩ := h.ctr
  have hS : Hid (DsSt L p 0 w ((w.setCell ⟨p, 802, none⟩ (.bool false)).setCell ⟨p, 803, none⟩ (.bool false))) := hide
    ⟨⟨f0, 0, 0, (h.setB 802 (.inl rfl) false).setB 803 (.inr rfl) false, ⟨by omega, hf, fun i hi => absurd hi (by omega), fun h => absurd h (by omega)⟩, by omega, by omega⟩, ((Below.refl _ _).setCell hL _).setCell hL _⟩
  have hS4 : Hid (DsSt L p 0 w (((w.setCell ⟨p, 802, none⟩ (.bool false)).setCell ⟨p, 803, none⟩ (.bool false)).setCell ⟨p, 802, none⟩ (.bool true))) := hide
    ⟨⟨f0, 0, 0, ((h.setB 802 (.inl rfl) false).setB 803 (.inr rfl) false).setB 802 (.inl rfl) true, ⟨by omega, hf, fun i hi => absurd hi (by omega), fun h => absurd h (by omega)⟩, by omega, by omega⟩, (((Below.refl _ _).setCell hL _).setCell hL _).setCell hL _⟩
  replace h := hide h
  go_enter Tryz.func140, Tryz.ntmps140
  by_cases h0 : 0 < s.size
  case neg =>
    obtain rfl : s = ByteArray.empty := ByteArray.size_eq_zero_iff.mp (by omega)
    go_wp2
    go_ret
    exact ⟨⟨_, rfl, _, rfl⟩, hS.out.out (by omega)⟩
  go_upto_block 0 with (fail)
  · rename_i he
    subst he
    exact absurd h0 (by decide)
  go_cut [5] (fun s5 wq => ∃ (i : Nat), s5 = .int .i64 i ∧ i ≤ s.size ∧ Hid (DsSt L p i w wq))
  case first =>
    go_wp2
    all_goals (go_meet; case rel => first | exact ⟨1, rfl, h0, hide (hS.out.mono (Nat.zero_le _))⟩ | exact ⟨1, rfl, h0, hide (hS4.out.mono (Nat.zero_le _))⟩ | exact ⟨0, rfl, Nat.zero_le _, hS⟩)
  case rest =>
  as_aux_lemma =>
  obtain ⟨i0, rfl, h1, hD0⟩ := hcut
  clear hS hS4 hz2 hz3 hc2 hc3
  go_upto_block 1 with (fail)
  go_cut [5, 6, 7] (fun s5 s6 s7 wq => ∃ (i : Nat) (sd sg : Bool), s5 = .int .i64 i ∧ s6 = .bool sd ∧ s7 = .bool sg ∧ i ≤ s.size ∧ Hid (DsSt L p i w wq))
  case first =>
    as_aux_lemma =>
    go_wp2
    go_loopw [5, 6, 7] (fun s5 s6 s7 wq => ∃ (i : Nat) (sd sg : Bool), s5 = .int .i64 i ∧ s6 = .bool sd ∧ s7 = .bool sg ∧ i ≤ s.size ∧ Hid (DsSt L p i w wq)) (fun s5 _ _ _ => s.size - (intOf s5).toNat)
    case atStart => exact ⟨i0, false, false, rfl, rfl, rfl, h1, hD0⟩
    case round =>
      obtain ⟨i, sd, sg, rfl, rfl, rfl, g1, hD⟩ := hrel
      by_cases hlt : i < s.size
      · obtain ⟨⟨f, nd, dp, hd, hok, k1, k2⟩, hb⟩ := hD.out
        have hle := hok.le
        have hcn := hd.cnd
        have hcp := hd.cdp
        have hzn := hd.fz 800
        have hzp := hd.fz 801
        have hz3 := hd.fz 803
        obtain ⟨b3, hc3⟩ := hd.ctr
        replace hd := hide hd
        replace hok := hide hok
        by_cases e95 : (s[i].toNat : Int) = 95
        · go_wp2
          exact ⟨⟨i + 1, sd, sg, rfl, rfl, rfl, hlt, hide (hD.out.mono (by omega))⟩, by simp [intOf] <;> omega⟩
        by_cases e46 : (s[i].toNat : Int) = 46
        · cases sd
          · go_wp2
            exact ⟨⟨i + 1, true, sg, rfl, rfl, rfl, hlt, hide ⟨⟨f, nd, nd, hd.out.setDp nd nd rfl, hok.out, by omega, by omega⟩, hb.setCell hL _⟩⟩, by simp [intOf] <;> omega⟩
          · go_wp2
            go_ret
            exact ⟨⟨_, rfl, _, rfl⟩, hD.out.out (by omega)⟩
        by_cases e48 : 48 ≤ (s[i].toNat : Int) ∧ (s[i].toNat : Int) ≤ 57
        · obtain ⟨e48, e57⟩ := e48
          by_cases ez : (s[i].toNat : Int) = 48 ∧ nd = 0
          · obtain ⟨ez, rfl⟩ := ez
            go_wp2
            exact ⟨⟨i + 1, sd, true, rfl, rfl, rfl, hlt, hide ⟨⟨f, 0, dp - 1, hd.out.setDp (dp - 1) (dp - 1) rfl, hok.out, by omega, by omega⟩, hb.setCell hL _⟩⟩, by simp [intOf] <;> omega⟩
          · have hc256 : (s[i].toNat : Int) < 256 := by have := s[i].toNat_lt; omega
            by_cases h8 : nd < 800
            · have hdg := hd.out.dig nd h8
              have hdg2 : wr.cell? ⟨p, 0 + nd, none⟩ = some (.int .u8 (f nd)) := by rw [Nat.zero_add]; exact hdg
              have hfz := hd.out.fz nd
              have hfz2 : wr.frozen? ⟨p, 0 + nd, none⟩ = false := by rw [Nat.zero_add]; exact hfz
              have hnew : Hid (DsSt L p (i + 1) w (((wr.drewN 1).setCell ⟨p, nd, none⟩ (.int .u8 (s[i].toNat : Int))).setCell ⟨p, 800, none⟩ (.int .i64 ((nd : Int) + 1)))) := hide
                ⟨⟨_, nd + 1, dp, ((hd.out.drewN 1).setDig nd s[i].toNat h8 _ rfl).setNd (nd + 1) _ (by omega), dcok_more hok.out h8 (by omega) (fun h0 => by omega), by omega, by omega⟩, ((below_drewN hb 1).setCell hL _).setCell hL _⟩
              by_cases e0 : (s[i].toNat : Int) = 48
              · have en : ((nd : Int) == 0) = false := by simp; omega
                rw [e0] at hnew
                go_wp2
                go_still_tail 11, (by kernel_rfl)
                change wpList _ _ _ _ _ (wr.drewN 1)
                go_wp2
                exact ⟨⟨i + 1, sd, true, rfl, rfl, rfl, hlt, hnew⟩, by simp [intOf] <;> omega⟩
              · go_wp2
                go_still_tail 11, (by kernel_rfl)
                change wpList _ _ _ _ _ (wr.drewN 1)
                go_wp2
                exact ⟨⟨i + 1, sd, true, rfl, rfl, rfl, hlt, hnew⟩, by simp [intOf] <;> omega⟩
            · by_cases e0 : (s[i].toNat : Int) = 48
              · have en : ((nd : Int) == 0) = false := by simp; omega
                go_wp2
                exact ⟨⟨i + 1, sd, true, rfl, rfl, rfl, hlt, hide (hD.out.mono (by omega))⟩, by simp [intOf] <;> omega⟩
              · go_wp2
                exact ⟨⟨i + 1, sd, true, rfl, rfl, rfl, hlt, hide ⟨⟨f, nd, dp, hd.out.setB 803 (.inr rfl) true, hok.out, by omega, by omega⟩, hb.setCell hL _⟩⟩, by simp [intOf] <;> omega⟩
        · by_cases e57 : (s[i].toNat : Int) ≤ 57
          · have e49 : ¬ 48 ≤ (s[i].toNat : Int) := by omega
            go_wp2
            go_meet; case rel => exact ⟨i, sd, sg, rfl, rfl, rfl, g1, hD⟩
          · have e49 : 48 ≤ (s[i].toNat : Int) := by omega
            go_wp2
            go_meet; case rel => exact ⟨i, sd, sg, rfl, rfl, rfl, g1, hD⟩
      · go_wp2
        go_meet; case rel => exact ⟨i, sd, sg, rfl, rfl, rfl, g1, hD⟩
  case rest =>
  as_aux_lemma =>
  obtain ⟨i1, sd, sg, rfl, rfl, rfl, h1, hD1⟩ := hcut
  cases sg
  · go_wp2
    go_ret
    exact ⟨⟨_, rfl, _, rfl⟩, hD1.out.out (by omega)⟩
  obtain ⟨⟨f, nd, dp, hd, hok, k1, k2⟩, hb⟩ := hD1.out
  have hle := hok.le
  have hcn := hd.cnd
  have hcp := hd.cdp
  have hzp := hd.fz 801
  go_upto_if 120 with (fail)
  go_cut [120] (fun _ wq => Hid (DsSt L p i1 w wq))
  case first =>
    cases sd
    · go_wp2
      go_meet; case rel => exact hide ⟨⟨f, nd, nd, hd.setDp nd nd rfl, hok, by omega, by omega⟩, hb.setCell hL _⟩
    · go_wp2
      go_meet; case rel => exact hD1
  case rest =>
  clear hle hok hcn hcp hzp k1 k2 hb hd
  clear f nd dp
  clear hD1
  have hD1 := hcut
  clear hcut
  obtain ⟨⟨f, nd, dp, hd, hok, k1, k2⟩, hb⟩ := hD1.out
  have hle := hok.le
  have hcn := hd.cnd
  have hcp := hd.cdp
  have hzp := hd.fz 801
  replace hd := hide hd
  replace hok := hide hok
  by_cases hlt : i1 < s.size
  · obtain ⟨lb, hlb⟩ : ∃ lb, lowB s[i1] = lb := ⟨_, rfl⟩
    by_cases he : lb = 101
    · subst he
      have he2 : (lowB s[i1] == 101) = true := by rw [hlb]; rfl
      by_cases hlt2 : i1 + 1 < s.size
      · go_upto_block 4 with (first | (go_at_call 114; (with_reducible refine (lower_any _ _).mono ?_); rintro e w' ⟨rfl, rfl⟩))
        go_cut [5, 8] (fun s5 s8 w' => (∃ (i : Nat) (g : Int), s5 = .int .i64 i ∧ s8 = .int .i64 g ∧ i ≤ s.size ∧ (g = 1 ∨ g = -1)) ∧ wc = w')
        case first =>
          go_wp2
          all_goals (go_meet; case rel => first | exact ⟨⟨i1 + 1 + 1, _, vint' (by omega), rfl, by omega, .inl rfl⟩, rfl⟩ | exact ⟨⟨i1 + 1 + 1, _, vint' (by omega), rfl, by omega, .inr rfl⟩, rfl⟩ | exact ⟨⟨i1 + 1, _, vint' (by omega), rfl, by omega, .inl rfl⟩, rfl⟩)
        case rest =>
        as_aux_lemma =>
        obtain ⟨⟨i2, g, rfl, rfl, h2, hg⟩, rfl⟩ := hcut
        by_cases h3 : ∃ h : i2 < s.size, 48 ≤ (s[i2].toNat : Int) ∧ (s[i2].toNat : Int) ≤ 57
        · obtain ⟨h3, h4, h5⟩ := h3
          have n3 : ¬ s.size ≤ i2 := by omega
          have n4 : ¬ (s[i2].toNat : Int) < 48 := by omega
          have n5 : ¬ 57 < (s[i2].toNat : Int) := by omega
          go_upto_block 5 with (fail)
          go_cut [5, 9] (fun s5 s9 w' => (∃ (i e : Nat), s5 = .int .i64 i ∧ s9 = .int .i64 e ∧ i ≤ s.size ∧ e ≤ 200000) ∧ wc = w')
          case first =>
            as_aux_lemma =>
            go_wp2
            go_loop [5, 9] (fun s5 s9 => ∃ (i e : Nat), s5 = .int .i64 i ∧ s9 = .int .i64 e ∧ i ≤ s.size ∧ e ≤ 200000) (fun s5 _ => s.size - (intOf s5).toNat)
            case atStart => exact ⟨i2, 0, rfl, rfl, h2, by omega⟩
            case round =>
              obtain ⟨i, e, rfl, rfl, q1, q2⟩ := hrel
              by_cases hi : i < s.size
              · by_cases e95 : (s[i].toNat : Int) = 95
                · have e57 : ¬ (s[i].toNat : Int) ≤ 57 := by omega
                  have e48 : 48 ≤ (s[i].toNat : Int) := by omega
                  go_wp2
                  exact ⟨⟨i + 1, e, rfl, rfl, hi, q2⟩, by simp [intOf] <;> omega⟩
                · by_cases e48 : 48 ≤ (s[i].toNat : Int)
                  · by_cases e57 : (s[i].toNat : Int) ≤ 57
                    · by_cases h10 : e < 10000
                      · go_wp2
                        exact ⟨⟨i + 1, e * 10 + (s[i].toNat - 48), rfl, vint' (by omega), hi, by omega⟩, by simp [intOf] <;> omega⟩
                      · go_wp2
                        exact ⟨⟨i + 1, e, rfl, rfl, hi, q2⟩, by simp [intOf] <;> omega⟩
                    · go_wp2
                      go_meet; case rel => exact ⟨⟨i, e, rfl, rfl, q1, q2⟩, rfl⟩
                  · go_wp2
                    go_meet; case rel => exact ⟨⟨i, e, rfl, rfl, q1, q2⟩, rfl⟩
              · go_wp2
                go_meet; case rel => exact ⟨⟨i, e, rfl, rfl, q1, q2⟩, rfl⟩
          case rest =>
          as_aux_lemma =>
          obtain ⟨⟨i3, e3, rfl, rfl, q1, q2⟩, rfl⟩ := hcut
          have hfin : ∀ x : Int, -300000 ≤ x → x ≤ 300000 → Hid (DsOut p (wc.setCell ⟨p, 801, none⟩ (.int .i64 (dp + x))) ∧ Below L w (wc.setCell ⟨p, 801, none⟩ (.int .i64 (dp + x)))) :=
            fun x x1 x2 => hide ⟨⟨f, nd, dp + x, hd.out.setDp _ _ rfl, hok.out, by omega, by omega⟩, hb.setCell hL _⟩
          rcases hg with rfl | rfl
          · have hx := hfin (e3 : Int) (by omega) (by omega)
            go_wp2
            all_goals (
              go_ret
              exact ⟨⟨_, rfl, _, rfl⟩, hx.out⟩)
          · have hx := hfin (-(e3 : Int)) (by omega) (by omega)
            go_wp2
            all_goals (
              go_ret
              exact ⟨⟨_, rfl, _, rfl⟩, hx.out⟩)
        · by_cases h4 : i2 < s.size
          · by_cases h5 : (s[i2].toNat : Int) < 48
            · go_wp2
              go_ret
              exact ⟨⟨_, rfl, _, rfl⟩, hD1.out.out (by omega)⟩
            · have h6 : 57 < (s[i2].toNat : Int) := by
                rcases Int.lt_or_le 57 (s[i2].toNat : Int) with h | h
                · exact h
                · exact absurd ⟨h4, by omega, h⟩ h3
              go_wp2
              go_ret
              exact ⟨⟨_, rfl, _, rfl⟩, hD1.out.out (by omega)⟩
          · go_wp2
            go_ret
            exact ⟨⟨_, rfl, _, rfl⟩, hD1.out.out (by omega)⟩
      · go_wp2_with (first | (go_at_call 114; (with_reducible refine (lower_any _ _).mono ?_); rintro e w' ⟨rfl, rfl⟩))
        go_ret
        exact ⟨⟨_, rfl, _, rfl⟩, hD1.out.out (by omega)⟩
    · have he2 : (lowB s[i1] == 101) = false := by rw [hlb]; simp; omega
      go_wp2_with (first | (go_at_call 114; (with_reducible refine (lower_any _ _).mono ?_); rintro e w' ⟨rfl, rfl⟩))
      go_ret
      exact ⟨⟨_, rfl, _, rfl⟩, hD1.out.out (by omega)⟩
  · go_wp2
    go_ret
    exact ⟨⟨_, rfl, _, rfl⟩, hD1.out.out (by omega)⟩
end Go.Proofs.YtgmbjdoifkjdhaaGreatDoor
