/- shortFloat: the shortest digits that are read back. -/
import Derived.Test.YtgmbjdoifkjdhaaGreatDoorKb
import Derived.Deep.DeepCutAuto
import Derived.Deep.CutBlock
namespace Go.Proofs.YtgmbjdoifkjdhaaGreatDoor
open Go.RowKit

def sLow (M k : Nat) : Prop := M = 4503599627370496 ∧ 0 < k
instance (M k : Nat) : Decidable (sLow M k) := inferInstanceAs (Decidable (_ ∧ _))
def sP (M k : Nat) : Int := if sLow M k then -Fl.skew ((k : Int) - 1074) else -Fl.l10 ((k : Int) - 1074)
def sA (M k : Nat) : Nat := if sLow M k then 1 else 2
def sI (M k : Nat) : Nat := (sP M k + 348).toNat
def sS (M k z : Nat) : Nat := (-((k : Int) - 1074 - z + Fl.lp (sP M k) + 3)).toNat
def sU (c M k z : Nat) : Nat := Fl.uscaleN (c * 2 ^ (z - 2)) (Fl.hiT (sI M k)) (Fl.loT (sI M k)) (sS M k z)
/-- The digits, and whether one zero behind them was cut off. -/
def sR (M k z : Nat) : Nat × Bool := Fl.pick (M % 2) (sU (4 * M - sA M k) M k z) (sU (4 * M) M k z) (sU (4 * M + 2) M k z)
def sE (M k z : Nat) : Int := if (sR M k z).2 then -sP M k + 1 else -sP M k
/-- A float's parts, its top bit first. -/
structure FlIn (M k z : Nat) : Prop where
  M0 : 0 < M
  M1 : M < 9007199254740992
  k0 : k = 0 ∨ 4503599627370496 ≤ M
  k1 : k < 2046
  z0 : 9223372036854775808 ≤ M * 2 ^ z
  z1 : M * 2 ^ z < 18446744073709551616
theorem vintF {k : IntKind} {a b : Int} (h : a = b) : Value.int k a = .int k b := by rw [h]
theorem ret2F {a a' b b' : Int} (h1 : a = a') (h2 : b = b') : Ending.returned (.tuple #[.int .u64 a, .int .i64 b]) = .returned (.tuple #[.int .u64 a', .int .i64 b']) := by rw [h1, h2]
theorem FlIn.z11 {M k z : Nat} (h : FlIn M k z) : 11 ≤ z := by
  apply Nat.le_of_not_lt
  intro hz
  have h1 := Nat.mul_le_mul (show M ≤ 9007199254740991 by have := h.M1; omega) (Nat.pow_le_pow_right (show 0 < 2 by omega) (show z ≤ 10 by omega))
  rw [show 9007199254740991 * 2 ^ 10 = 9223372036854774784 from rfl] at h1
  have := h.z0
  omega
theorem FlIn.z63 {M k z : Nat} (h : FlIn M k z) : z ≤ 63 := by
  apply Nat.le_of_not_lt
  intro hz
  have h1 := Nat.mul_le_mul (show 1 ≤ M from h.M0) (Nat.pow_le_pow_right (show 0 < 2 by omega) (show 64 ≤ z by omega))
  rw [show 1 * 2 ^ 64 = 18446744073709551616 from rfl] at h1
  have := h.z1
  omega
theorem FlIn.four {M k z : Nat} (h : FlIn M k z) : 2 ^ z = 4 * 2 ^ (z - 2) := by
  have := h.z11
  rw [show z = (z - 2) + 2 by omega, Nat.pow_add, show z - 2 + 2 - 2 = z - 2 by omega]; omega
theorem FlIn.top {M k z : Nat} (h : FlIn M k z) : (4 * M + 2) * 2 ^ (z - 2) < 18446744073709551616 := by
  have hz63 := h.z63
  have e1 : (M + 1) * 2 ^ z = M * 2 ^ z + 2 ^ z := by rw [Nat.add_mul, Nat.one_mul]
  have e2 : (4 * M + 4) * 2 ^ (z - 2) = (M + 1) * 2 ^ z := by rw [h.four]; grind
  have e3 : (4 * M + 4) * 2 ^ (z - 2) = (4 * M + 2) * 2 ^ (z - 2) + 2 * 2 ^ (z - 2) := by rw [← Nat.add_mul]
  have hpos := Nat.two_pow_pos (z - 2)
  have hdiv : (M + 1) * 2 ^ z ≤ 18446744073709551616 := by
    have h4 : M * 2 ^ z < 2 ^ (64 - z) * 2 ^ z := by
      rw [← Nat.pow_add, show 64 - z + z = 64 by omega]; exact h.z1
    have h5 := Nat.lt_of_mul_lt_mul_right h4
    have h6 := Nat.mul_le_mul_right (2 ^ z) (show M + 1 ≤ 2 ^ (64 - z) from h5)
    rw [← Nat.pow_add, show 64 - z + z = 64 by omega] at h6
    exact h6
  omega
/-- What holds of the power of ten. -/
theorem FlIn.scale {M k z : Nat} (h : FlIn M k z) : -293 < sP M k ∧ sP M k < 325 ∧ 0 ≤ (k : Int) - 1074 + Fl.lp (sP M k) ∧ (k : Int) - 1074 + Fl.lp (sP M k) ≤ 3 := by
  unfold sP
  by_cases hl : sLow M k
  · rw [if_pos hl]
    obtain ⟨_, _, h1, h2, h3, h4⟩ := Fl.scale_skew k h.k1
    exact ⟨h1, h2, h3, h4⟩
  · rw [if_neg hl]
    obtain ⟨_, _, h1, h2, h3, h4⟩ := Fl.scale_plain k h.k1
    exact ⟨h1, h2, h3, h4⟩
theorem FlIn.near {M k z : Nat} (h : FlIn M k z) : 4 ≤ sU (4 * M + 2) M k z ∧ Fl.ShortOk M k z (sI M k) (sS M k z) (sA M k) (sP M k) (sE M k z) (sR M k z).1 := by
  obtain ⟨h1, h2, h3, h4⟩ := h.scale
  have hz := h.z11
  have := @Fl.short_near M k z (sI M k) (sS M k z) (sA M k) (sP M k) h.M0 h.M1 h.k1 h.z0 h.z1 (by
    unfold sA sP
    by_cases hl : sLow M k
    · rw [if_pos hl, if_pos hl]; exact .inr ⟨rfl, rfl, hl.1, hl.2⟩
    · rw [if_neg hl, if_neg hl]; exact .inl ⟨rfl, rfl, hl⟩) (by unfold sI; omega) (by unfold sS; omega)
  exact ⟨this.1, this.2 _ rfl⟩
theorem and1i (s : Nat) (h : s < 9007199254740992) : bits .and .i64 (s : Int) 1 = ((s % 2 : Nat) : Int) := by
  have := i64_and_nat s 1 (by omega) (by omega)
  rw [nat_mask1] at this
  exact this
theorem sU_le {c M k z : Nat} (h : FlIn M k z) (hc : c ≤ 4 * M + 2) : sU c M k z ≤ 1152921504606846975 := by
  have ht := h.top
  have hle := Nat.mul_le_mul_right (2 ^ (z - 2)) hc
  obtain ⟨h1, h2, h3, h4⟩ := h.scale
  have hz := h.z11
  have F := Fl.row_facts (sI M k) (by unfold sI; omega)
  have hx := @Fl.uscaleN_le (c * 2 ^ (z - 2)) (Fl.hiT (sI M k)) (Fl.loT (sI M k)) (sS M k z) (by omega) (by have := F.hi1; omega)
  have h5 : 5 ≤ sS M k z := by unfold sS; omega
  have h6 := Nat.div_le_div_left (Nat.pow_le_pow_right (show 0 < 2 by omega) h5) (Nat.two_pow_pos 5) (a := 18446744073709551615)
  unfold sU
  omega
set_option maxRecDepth 100000 in
set_option maxHeartbeats 8000000 in
theorem short_any (B M k z : Nat) (w : World) (hG : Glob B w) (H : FlIn M k z) :
    Calls Tryz.prog 105 #[.int .u64 ((M * 2 ^ z : Nat) : Int), .int .i64 ((k : Int) - 1074 - z)] w fun e w' => e = .returned (.tuple #[.int .u64 (sR M k z).1, .int .i64 (sE M k z)]) ∧ Below w.heap.size w w' := by
  obtain ⟨p0, p1, l0, l1⟩ := H.scale
  have z11 := H.z11
  have z63 := H.z63
  have k1 := H.k1
  obtain ⟨x, hx⟩ : ∃ x, M * 2 ^ z = x := ⟨_, rfl⟩
  obtain ⟨P, hP⟩ : ∃ P, 2 ^ (z - 2) = P := ⟨_, rfl⟩
  have htop := H.top
  have hx4 : x = 4 * M * P := by rw [← hx, ← hP, H.four]; grind
  rw [hP] at htop
  have e2P : (4 * M + 2) * P = x + 2 * P := by rw [hx4, Nat.add_mul]
  have hx0 := H.z0
  have hx1 := H.z1
  rw [hx] at hx0 hx1
  rw [hx]
  obtain ⟨e, he⟩ : ∃ e, (k : Int) - 1074 - z = e := ⟨_, rfl⟩
  obtain ⟨p, hp⟩ : ∃ p, sP M k = p := ⟨_, rfl⟩
  obtain ⟨l, hl⟩ : ∃ l, Fl.lp p = l := ⟨_, rfl⟩
  rw [hp] at p0 p1 l0 l1
  rw [hl] at l0 l1
  have mM := H.M1
  have m0 := H.M0
  -- the pieces
  obtain ⟨od, hod⟩ : ∃ od, M % 2 = od := ⟨_, rfl⟩
  have hod1 : od ≤ 1 := by omega
  obtain ⟨mn, hmn⟩ : ∃ mn, (4 * M - sA M k) * P = mn := ⟨_, rfl⟩
  obtain ⟨mx, hmx⟩ : ∃ mx, (4 * M + 2) * P = mx := ⟨_, rfl⟩
  have hA : sA M k = 1 ∨ sA M k = 2 := by unfold sA; split <;> simp
  have emn : mn + sA M k * P = x := by rw [← hmn, hx4, ← Nat.add_mul, Nat.sub_add_cancel (by omega)]
  have hP0 : 0 < P := by rw [← hP]; exact Nat.two_pow_pos _
  rw [he]
  obtain ⟨E, hE⟩ : ∃ E, (k : Int) - 1074 = E := ⟨_, rfl⟩
  rw [hE] at l0 l1
  have eE : e + z = E := by omega
  have hEb : -1074 ≤ E ∧ E ≤ 971 := by omega
  have K1 : Hid (sLow M k → ∃ sk : Int, -sk = p ∧ ∀ W : World, Calls Tryz.prog 115 #[.int .i64 E] W fun r w' => r = .returned (.int .i64 sk) ∧ W = w') := hide fun h => by
    refine ⟨Fl.skew E, ?_, fun W => skew_any E W (by omega) (by omega)⟩
    rw [← hp, ← hE]; unfold sP; rw [if_pos h]
  have K2 : Hid (¬ sLow M k → ∃ sk : Int, -sk = p ∧ ∀ W : World, Calls Tryz.prog 100 #[.int .i64 E] W fun r w' => r = .returned (.int .i64 sk) ∧ W = w') := hide fun h => by
    refine ⟨Fl.l10 E, ?_, fun W => log10_any E W (by omega) (by omega)⟩
    rw [← hp, ← hE]; unfold sP; rw [if_neg h]
  have HA : Hid ((sLow M k ∧ z = 11 ∧ sA M k = 1 ∧ x = 9223372036854775808 ∧ P = 512) ∨ (¬ sLow M k ∧ z = 11 ∧ sA M k = 2 ∧ P = 512 ∧ x = M * 2048 ∧ (x = 9223372036854775808 → e = -1085)) ∨ (¬ sLow M k ∧ 12 ≤ z ∧ sA M k = 2 ∧ e = -1074 - z ∧ x = M * 2 ^ z)) := hide (by
    by_cases h : sLow M k
    · have hz : z = 11 := by
        have h3 : 2 ^ z < 4096 := by rw [h.1] at hx; omega
        have : z < 12 := (Nat.pow_lt_pow_iff_right (show 1 < 2 by omega)).mp (show 2 ^ z < 2 ^ 12 from h3)
        omega
      subst hz
      exact .inl ⟨h, rfl, by unfold sA; rw [if_pos h], by rw [← hx, h.1], hP.symm⟩
    · have hA2 : sA M k = 2 := by unfold sA; rw [if_neg h]
      by_cases hz : z = 11
      · subst hz
        refine .inr (.inl ⟨h, rfl, hA2, hP.symm, hx.symm, fun h3 => ?_⟩)
        have hM2 : M = 4503599627370496 := by omega
        have : ¬ 0 < k := fun hk => h ⟨hM2, hk⟩
        omega
      · refine .inr (.inr ⟨h, by omega, hA2, ?_, hx.symm⟩)
        have h12 : 4096 ≤ 2 ^ z := Nat.pow_le_pow_right (show 0 < 2 by omega) (show 12 ≤ z by omega)
        have hM2 : M < 4503599627370496 := by
          apply Nat.lt_of_not_le
          intro h5
          have := Nat.mul_le_mul h5 h12
          omega
        have := H.k0
        omega)
  have HK : Hid (bits .and .i64 (M : Int) 1 = (od : Int)) := hide (by rw [and1i M mM, hod])
  have HP := hide hP
  have HE := hide hE
  clear hE he hx hP
  replace hp := hide hp
  replace hl := hide hl
  replace hmn := hide hmn
  replace hmx := hide hmx
  replace hod := hide hod
  go_enter Tryz.func105, Tryz.ntmps105
  go_upto_region 12 with (fail)
  go_cut [28] (fun s28 w' => s28 = .bool (decide (sLow M k)) ∧ w = w')
  case first =>
    as_aux_lemma =>
    rcases HA.out with ⟨h1, rfl, h3, rfl, rfl⟩ | ⟨h1, rfl, h3, rfl, h5, h6⟩ | ⟨h1, h2, h3, h4, h5⟩
    · have hk : -1085 < e := by have := h1.2; have := HE.out; omega
      have hd := hide (decide_eq_true h1)
      clear h1 h3 HA hx4 emn e2P
      go_wp2
      go_meet; case rel => exact ⟨by rw [hd.out], rfl⟩
    · have hd := hide (decide_eq_false h1)
      clear h1 h3 HA hx4 emn e2P
      by_cases hx63 : x = 9223372036854775808
      · have he := h6 hx63
        subst hx63
        subst he
        clear h5 h6
        go_wp2
        go_meet; case rel => exact ⟨by rw [hd.out], rfl⟩
      · have hx2 : ((x : Int) == 9223372036854775808) = false := by simp; omega
        clear h5 h6
        go_wp2
        go_meet; case rel => exact ⟨by rw [hd.out], rfl⟩
    · have hd := hide (decide_eq_false h1)
      have he : ¬ -1085 < e := by omega
      clear h4
      clear h1 h3 HA hx4 emn e2P h5 eE
      by_cases hx63 : x = 9223372036854775808
      · subst hx63
        go_wp2
        go_meet; case rel => exact ⟨by rw [hd.out], rfl⟩
      · have hx2 : ((x : Int) == 9223372036854775808) = false := by simp; omega
        go_wp2
        go_meet; case rel => exact ⟨by rw [hd.out], rfl⟩
  case rest =>
  as_aux_lemma =>
  obtain ⟨rfl, rfl⟩ := hcut
  go_upto_if 28 with (fail)
  go_cut [5, 8, 9, 10] (fun s5 s8 s9 s10 w' => (s5 = .int .i64 p ∧ s8 = .int .u64 mn ∧ s9 = .int .u64 mx ∧ s10 = .int .i64 od) ∧ w = w')
  case first =>
    as_aux_lemma =>
    rcases HA.out with ⟨h1, rfl, h3, rfl, rfl⟩ | ⟨h1, rfl, h3, rfl, h5, h6⟩ | ⟨h1, h2, h3, h4, h5⟩
    · obtain ⟨sk, k2, k3⟩ := K1.out h1
      have hM2 : M = 4503599627370496 := h1.1
      have hd : decide (sLow M k) = true := decide_eq_true h1
      rw [hd]
      have hod0 : od = 0 := by have := hod.out; omega
      have hb1 : bits .and .i64 4503599627370496 1 = 0 := by have := and1i 4503599627370496 (by omega); simpa using this
      have eE' : e + 11 = E := eE
      subst hod0
      rw [h3] at emn
      have e1 : mn = 9223372036854775296 := by omega
      have e2 : mx = 9223372036854776832 := by have := hmx.out; omega
      have s0 : -400 ≤ sk := by omega
      have s1 : sk ≤ 400 := by omega
      clear hM2 h1 h3 K1 K2 HA HK hx4 hd emn e2P
      replace e1 := hide e1
      replace e2 := hide e2
      replace k2 := hide k2
      replace k3 := hide k3
      go_wp2_with (first | (go_at_call 115; (with_reducible refine (k3.out _).mono ?_); rintro r w' ⟨rfl, rfl⟩))
      go_meet; case rel =>
        refine ⟨⟨by rw [k2.out], vintF ?_, vintF ?_, rfl⟩, rfl⟩
        · have := e1.out; omega
        · have := e2.out; omega
    · obtain ⟨sk, k2, k3⟩ := K2.out h1
      have hd : decide (sLow M k) = false := decide_eq_false h1
      rw [hd]
      have hq : (x : Int) / 2048 = M := by omega
      have hb1 := HK.out
      have eE' : e + 11 = E := eE
      have hge : -1085 ≤ e := by omega
      rw [h3] at emn
      have e1 : (x : Int) - 1024 = mn := by omega
      have e2 : (x : Int) + 1024 = mx := by have := hmx.out; omega
      have s0 : -400 ≤ sk := by omega
      have s1 : sk ≤ 400 := by omega
      have hx2 : x + 1024 < 18446744073709551616 := by omega
      clear h1 h3 K1 K2 HA HK hx4 hd emn e2P h5 h6
      replace e1 := hide e1
      replace e2 := hide e2
      replace k2 := hide k2
      replace k3 := hide k3
      go_wp2_with (first | (go_at_call 100; (with_reducible refine (k3.out _).mono ?_); rintro r w' ⟨rfl, rfl⟩))
      go_meet; case rel =>
        refine ⟨⟨by rw [k2.out], vintF ?_, vintF ?_, rfl⟩, rfl⟩
        · exact e1.out
        · exact e2.out
    · obtain ⟨sk, k2, k3⟩ := K2.out h1
      have hd : decide (sLow M k) = false := decide_eq_false h1
      rw [hd]
      have hq : (x : Int) / 2 ^ z = M := by
        rw [h5, show (2 : Int) ^ z = ((2 ^ z : Nat) : Int) by rw [Int.natCast_pow]; rfl, ← Int.natCast_ediv, Nat.mul_div_cancel _ (Nat.two_pow_pos z)]
      have hb1 := HK.out
      have eE' : e + z = E := eE
      have hlt : e < -1085 := by omega
      have hpw : (2 : Int) ^ (z - 1) = 2 * P := by
        rw [show z - 1 = (z - 2) + 1 by omega, Int.pow_succ, show (2 : Int) ^ (z - 2) = ((2 ^ (z - 2) : Nat) : Int) by rw [Int.natCast_pow]; rfl, HP.out]; omega
      have e75 : -1085 - e = (z : Int) - 11 := by omega
      have e76 : (11 : Int) + ((z : Int) - 11) = z := by omega
      rw [h3] at emn
      have e1 : (x : Int) - 2 * P = mn := by omega
      have e2 : (x : Int) + 2 * P = mx := by have := hmx.out; omega
      have s0 : -400 ≤ sk := by omega
      have s1 : sk ≤ 400 := by omega
      have hx2 : x + 2 * P < 18446744073709551616 := by omega
      have hx3 : 2 * P ≤ x := by omega
      clear h1 h3 h4 K1 K2 HA HK hx4 hd emn e2P h5
      replace e1 := hide e1
      replace e2 := hide e2
      replace k2 := hide k2
      replace k3 := hide k3
      go_wp2_with (first | (go_at_call 100; (with_reducible refine (k3.out _).mono ?_); rintro r w' ⟨rfl, rfl⟩))
      go_meet; case rel =>
        refine ⟨⟨by rw [k2.out], vintF ?_, vintF ?_, rfl⟩, rfl⟩
        · exact e1.out
        · exact e2.out
  case rest =>
  as_aux_lemma =>
  obtain ⟨⟨rfl, rfl, rfl, rfl⟩, rfl⟩ := hcut
  obtain ⟨S, hS⟩ : ∃ S, sS M k z = S := ⟨_, rfl⟩
  have hS2 : (S : Int) = -(e + l + 3) := by
    have := HE.out
    rw [← hS]; unfold sS; rw [hp.out, hl.out]; omega
  have S64 : S < 64 := by omega
  obtain ⟨I, hI⟩ : ∃ I, sI M k = I := ⟨_, rfl⟩
  have hI2 : (p + 348).toNat = I := by rw [← hI]; unfold sI; rw [hp.out]
  have F := Fl.row_facts I (by omega)
  have hhi := F.hi1
  have hhi0 := F.hi0
  have hlo := F.lo1
  clear F
  have KL : Hid (∀ W : World, Calls Tryz.prog 117 #[.int .i64 p] W fun r w' => r = .returned (.int .i64 l) ∧ W = w') := hide fun W => by
    rw [← hl.out]; exact log2_any p W (by omega) (by omega)
  have hG1 : Glob B (w.alloc (.cells #[.int .u64 0, .int .u64 0, .int .i64 0] 192)) := hG.up ((Below.refl _ _).alloc (Nat.le_refl _) _)
  have K3 : Hid (Calls Tryz.prog 116 #[.pointer (some ⟨w.heap.size, 0, none⟩), .int .i64 e, .int .i64 p, .int .i64 l] (w.alloc (.cells #[.int .u64 0, .int .u64 0, .int .i64 0] 192)) fun r w' => r = .returned (.tuple #[]) ∧
      Blk w' w.heap.size 192 #[.int .u64 (Fl.hiT I), .int .u64 (Fl.loT I), .int .i64 S] ∧ Below w.heap.size w w') := hide (by
    have := prescale_any B w.heap.size p e l _ hG1 hG.size (by omega) (by omega) (by omega) (by omega) (by omega) (by omega) (Blk.new w 192 _)
    rw [← hS2, hI2] at this
    exact this.mono fun r w' ⟨h1, h2, h3⟩ => ⟨h1, h2, ((Below.refl _ _).alloc (Nat.le_refl _) _).trans h3⟩)
  have KU : ∀ (c v : Nat), 1 ≤ c → c ≤ 4 * M + 2 → c * P = v → 2 ≤ v → ∀ W : World, Blk W w.heap.size 192 #[.int .u64 (Fl.hiT I), .int .u64 (Fl.loT I), .int .i64 S] → Calls Tryz.prog 118 #[.int .u64 v, .pointer (some ⟨w.heap.size, 0, none⟩)] W (Quiet (.int .u64 (sU c M k z : Nat)) W) := by
    intro c v hc1 hc2 hv hv2 W hW
    have hv64 : v < 18446744073709551616 := by
      have := Nat.mul_le_mul_right P hc2
      omega
    have hxh : 18446744073709551616 ≤ v * Fl.hiT I := by
      have := Nat.mul_le_mul hv2 hhi0
      omega
    have := uscale_any v (Fl.hiT I) (Fl.loT I) S w.heap.size W hv64 (by omega) (by omega) S64 hxh hW
    have he : sU c M k z = Fl.uscaleN v (Fl.hiT I) (Fl.loT I) S := by unfold sU; rw [HP.out, hv, hI, hS]
    rw [he]; exact this
  have hxx : x = 4 * M * P := hx4
  obtain ⟨umn, humn⟩ : ∃ u, sU (4 * M - sA M k) M k z = u := ⟨_, rfl⟩
  obtain ⟨um, hum⟩ : ∃ u, sU (4 * M) M k z = u := ⟨_, rfl⟩
  obtain ⟨umx, humx⟩ : ∃ u, sU (4 * M + 2) M k z = u := ⟨_, rfl⟩
  have b1 := sU_le (c := 4 * M - sA M k) H (by omega)
  have b2 := sU_le (c := 4 * M) H (by omega)
  have b3 := sU_le (c := 4 * M + 2) H (by omega)
  have b4 := H.near.1
  rw [humn] at b1
  rw [hum] at b2
  rw [humx] at b3 b4
  have mn2 : 2 ≤ mn := by
    have h1 := Nat.mul_le_mul (show 2 ≤ 4 * M - sA M k by omega) hP0
    rw [hmn.out] at h1
    omega
  have KA : Hid (∀ W : World, Blk W w.heap.size 192 #[.int .u64 (Fl.hiT I), .int .u64 (Fl.loT I), .int .i64 S] → Calls Tryz.prog 118 #[.int .u64 mn, .pointer (some ⟨w.heap.size, 0, none⟩)] W (Quiet (.int .u64 (umn : Nat)) W)) := hide (by rw [← humn]; exact KU _ _ (by omega) (by omega) hmn.out mn2)
  have KB : Hid (∀ W : World, Blk W w.heap.size 192 #[.int .u64 (Fl.hiT I), .int .u64 (Fl.loT I), .int .i64 S] → Calls Tryz.prog 118 #[.int .u64 x, .pointer (some ⟨w.heap.size, 0, none⟩)] W (Quiet (.int .u64 (um : Nat)) W)) := hide (by rw [← hum]; exact KU _ _ (by omega) (by omega) hxx.symm (by omega))
  have KC : Hid (∀ W : World, Blk W w.heap.size 192 #[.int .u64 (Fl.hiT I), .int .u64 (Fl.loT I), .int .i64 S] → Calls Tryz.prog 118 #[.int .u64 mx, .pointer (some ⟨w.heap.size, 0, none⟩)] W (Quiet (.int .u64 (umx : Nat)) W)) := hide (by rw [← humx]; exact KU _ _ (by omega) (by omega) hmx.out (by have := hmx.out; omega))
  clear KU
  obtain ⟨vmn, hvmn⟩ : ∃ v, umn + od = v := ⟨_, rfl⟩
  obtain ⟨vmx, hvmx⟩ : ∃ v, umx - od = v := ⟨_, rfl⟩
  obtain ⟨dmn, hdmn⟩ : ∃ v, (vmn + 3) / 4 = v := ⟨_, rfl⟩
  obtain ⟨dmx, hdmx⟩ : ∃ v, vmx / 4 = v := ⟨_, rfl⟩
  obtain ⟨rn, hrn⟩ : ∃ v, Fl.roundN um = v := ⟨_, rfl⟩
  have KD : Hid (∀ W : World, Calls Tryz.prog 119 #[.int .u64 umn, .int .i64 od] W fun r w' => r = .returned (.int .u64 (vmn : Nat)) ∧ W = w') := hide fun W => by rw [← hvmn]; exact nudge_up umn od W (by omega) hod1
  have KE : Hid (∀ W : World, Calls Tryz.prog 120 #[.int .u64 vmn] W fun r w' => r = .returned (.int .u64 (dmn : Nat)) ∧ W = w') := hide fun W => by rw [← hdmn]; exact ceil_any vmn W (by omega)
  have KF : Hid (∀ W : World, Calls Tryz.prog 119 #[.int .u64 umx, .int .i64 (-(od : Int))] W fun r w' => r = .returned (.int .u64 (vmx : Nat)) ∧ W = w') := hide fun W => by rw [← hvmx]; exact nudge_down umx od W (by omega) (by omega) hod1
  have KG : Hid (∀ W : World, Calls Tryz.prog 121 #[.int .u64 vmx] W fun r w' => r = .returned (.int .u64 (dmx : Nat)) ∧ W = w') := hide fun W => by rw [← hdmx]; exact floor_any vmx W (by omega)
  have KH : Hid (∀ W : World, Calls Tryz.prog 122 #[.int .u64 um] W fun r w' => r = .returned (.int .u64 (rn : Nat)) ∧ W = w') := hide fun W => by rw [← hrn]; exact round_any um W (by omega)
  have hpick : Hid (∀ r, r = (if dmn ≤ dmx / 10 * 10 then (dmx / 10, true) else if dmn < dmx then (rn, false) else (dmn, false)) → sR M k z = r) := hide fun r hr => by
    unfold sR Fl.pick
    rw [humn, hum, humx, hod.out, hvmn, hvmx, hdmn, hdmx, hrn]
    exact hr.symm
  have hsE : Hid (sE M k z = if (sR M k z).2 then -p + 1 else -p) := hide (by unfold sE; rw [hp.out])
  have dmx60 : dmx ≤ 1152921504606846976 := by omega
  have dmn60 : dmn ≤ 1152921504606846976 := by omega
  have pb0 : -400 ≤ p := by omega
  have pb1 : p ≤ 400 := by omega
  clear hG1 hxx hx4 htop e2P emn mn2 b1 b2 b3 b4 humn hum humx hvmn hvmx hdmn hdmx hrn hA HA hhi hhi0 hlo hS2 hI2 hI hS K1 K2 HK
  by_cases c1 : (dmn : Int) ≤ (dmx : Int) / 10 * 10
  · have q := hpick.out (dmx / 10, true) (by rw [if_pos (by omega)])
    have qE := hsE.out
    rw [q] at qE
    replace q := hide q
    replace qE := hide qE
    clear hpick hsE
    go_wp2_with (first
      | (go_at_call 117; (with_reducible refine (KL.out _).mono ?_); rintro r w' ⟨rfl, rfl⟩)
      | (go_at_call 116; (with_reducible refine K3.out.mono ?_); rintro r w1 ⟨rfl, hb1, hw1⟩; replace hb1 := hide hb1; replace hw1 := hide hw1)
      | (go_at_call 118; (with_reducible refine (KA.out _ ?_).mono ?_); (· first | exact hb1.out | exact hb1.out.drewN _); rintro r w2 ⟨rfl, n2, rfl⟩)
      | (go_at_call 118; (with_reducible refine (KC.out _ ?_).mono ?_); (· first | exact hb1.out | exact hb1.out.drewN _ | exact (hb1.out.drewN _).drewN _); rintro r w2 ⟨rfl, n3, rfl⟩)
      | (go_at_call 118; (with_reducible refine (KB.out _ ?_).mono ?_); (· first | exact hb1.out | exact hb1.out.drewN _ | exact (hb1.out.drewN _).drewN _); rintro r w2 ⟨rfl, n4, rfl⟩)
      | (go_at_call 119; (with_reducible refine (KD.out _).mono ?_); rintro r w' ⟨rfl, rfl⟩)
      | (go_at_call 119; (with_reducible refine (KF.out _).mono ?_); rintro r w' ⟨rfl, rfl⟩)
      | (go_at_call 120; (with_reducible refine (KE.out _).mono ?_); rintro r w' ⟨rfl, rfl⟩)
      | (go_at_call 121; (with_reducible refine (KG.out _).mono ?_); rintro r w' ⟨rfl, rfl⟩)
      | (go_at_call 122; (with_reducible refine (KH.out _).mono ?_); rintro r w' ⟨rfl, rfl⟩))
    go_ret2
    exact ⟨ret2F (by rw [q.out]; show (dmx : Int) / 10 = ((dmx / 10 : Nat) : Int); omega) (by rw [qE.out]; show -(p - 1) = -p + 1; omega), below_drewN hw1.out _⟩
  · by_cases c2 : dmn < dmx
    · have q := hpick.out (rn, false) (by rw [if_neg (by omega), if_pos c2])
      have qE := hsE.out
      rw [q] at qE
      replace q := hide q
      replace qE := hide qE
      clear hpick hsE
      go_wp2_with (first
        | (go_at_call 117; (with_reducible refine (KL.out _).mono ?_); rintro r w' ⟨rfl, rfl⟩)
        | (go_at_call 116; (with_reducible refine K3.out.mono ?_); rintro r w1 ⟨rfl, hb1, hw1⟩; replace hb1 := hide hb1; replace hw1 := hide hw1)
        | (go_at_call 118; (with_reducible refine (KA.out _ ?_).mono ?_); (· first | exact hb1.out | exact hb1.out.drewN _); rintro r w2 ⟨rfl, n2, rfl⟩)
        | (go_at_call 118; (with_reducible refine (KC.out _ ?_).mono ?_); (· first | exact hb1.out | exact hb1.out.drewN _ | exact (hb1.out.drewN _).drewN _); rintro r w2 ⟨rfl, n3, rfl⟩)
        | (go_at_call 118; (with_reducible refine (KB.out _ ?_).mono ?_); (· first | exact hb1.out | exact hb1.out.drewN _ | exact (hb1.out.drewN _).drewN _); rintro r w2 ⟨rfl, n4, rfl⟩)
        | (go_at_call 119; (with_reducible refine (KD.out _).mono ?_); rintro r w' ⟨rfl, rfl⟩)
        | (go_at_call 119; (with_reducible refine (KF.out _).mono ?_); rintro r w' ⟨rfl, rfl⟩)
        | (go_at_call 120; (with_reducible refine (KE.out _).mono ?_); rintro r w' ⟨rfl, rfl⟩)
        | (go_at_call 121; (with_reducible refine (KG.out _).mono ?_); rintro r w' ⟨rfl, rfl⟩)
        | (go_at_call 122; (with_reducible refine (KH.out _).mono ?_); rintro r w' ⟨rfl, rfl⟩))
      go_ret2
      exact ⟨ret2F (by rw [q.out]) (by rw [qE.out]; rfl), below_drewN hw1.out _⟩
    · have q := hpick.out (dmn, false) (by rw [if_neg (by omega), if_neg c2])
      have qE := hsE.out
      rw [q] at qE
      replace q := hide q
      replace qE := hide qE
      clear hpick hsE
      go_wp2_with (first
        | (go_at_call 117; (with_reducible refine (KL.out _).mono ?_); rintro r w' ⟨rfl, rfl⟩)
        | (go_at_call 116; (with_reducible refine K3.out.mono ?_); rintro r w1 ⟨rfl, hb1, hw1⟩; replace hb1 := hide hb1; replace hw1 := hide hw1)
        | (go_at_call 118; (with_reducible refine (KA.out _ ?_).mono ?_); (· first | exact hb1.out | exact hb1.out.drewN _); rintro r w2 ⟨rfl, n2, rfl⟩)
        | (go_at_call 118; (with_reducible refine (KC.out _ ?_).mono ?_); (· first | exact hb1.out | exact hb1.out.drewN _ | exact (hb1.out.drewN _).drewN _); rintro r w2 ⟨rfl, n3, rfl⟩)
        | (go_at_call 118; (with_reducible refine (KB.out _ ?_).mono ?_); (· first | exact hb1.out | exact hb1.out.drewN _ | exact (hb1.out.drewN _).drewN _); rintro r w2 ⟨rfl, n4, rfl⟩)
        | (go_at_call 119; (with_reducible refine (KD.out _).mono ?_); rintro r w' ⟨rfl, rfl⟩)
        | (go_at_call 119; (with_reducible refine (KF.out _).mono ?_); rintro r w' ⟨rfl, rfl⟩)
        | (go_at_call 120; (with_reducible refine (KE.out _).mono ?_); rintro r w' ⟨rfl, rfl⟩)
        | (go_at_call 121; (with_reducible refine (KG.out _).mono ?_); rintro r w' ⟨rfl, rfl⟩)
        | (go_at_call 122; (with_reducible refine (KH.out _).mono ?_); rintro r w' ⟨rfl, rfl⟩))
      go_ret2
      exact ⟨ret2F (by rw [q.out]) (by rw [qE.out]; rfl), below_drewN hw1.out _⟩
end Go.Proofs.YtgmbjdoifkjdhaaGreatDoor
