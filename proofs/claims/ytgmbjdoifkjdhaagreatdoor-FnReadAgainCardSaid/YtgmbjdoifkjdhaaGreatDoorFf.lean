/- ftoa64: a float's text. -/
import Derived.Test.YtgmbjdoifkjdhaaGreatDoorFe
import Derived.Test.YtgmbjdoifkjdhaaGreatDoorKv
import Derived.Room.AppendFits
import Derived.StillTailTactics
namespace Go.Proofs.YtgmbjdoifkjdhaaGreatDoor
open Go.RowKit

/-- What ftoa64 leaves: the text in the row, all else as it was. -/
def FtOut (d x : Nat) (w : World) (e : Ending) (w' : World) : Prop := ∃ l, e = .returned (.slice (some ⟨d, 0, none⟩) l.length 24) ∧ NT l x ∧ l.length ≤ 24 ∧ Dst d l w w'
theorem grown_below {w w' : World} (h : Below w.heap.size w w') (r : Option Nat) : w.grownBy w' r := ⟨h.os, h.tape, h.output, h.size, fun k hk _ => h.block k hk⟩
theorem own_below {d : Nat} {w w' : World} {n : Nat} {xs : List Value} (h : w.ownsRow d 5 1 (.slice (some ⟨d, 0, none⟩) n 24) n xs) (hb : Below w.heap.size w w') : w'.ownsRow d 5 1 (.slice (some ⟨d, 0, none⟩) n 24) n xs :=
  h.kept (grown_below hb none) (by simp [Value.ownBlock])
/-- Special texts. -/
theorem Dst.undrew {d : Nat} {l : List UInt8} {w w' : World} {n : Nat} (h : Dst d l (w.drewN n) w') : Dst d l w w' := ⟨h.own, ⟨h.gr.os, h.gr.tape, h.gr.output, h.gr.size, h.gr.block⟩⟩
theorem nt_nan : NT [78, 97, 78] nanW := ⟨.inl ⟨rfl, rfl⟩, fun h => absurd h (by decide), fun h => absurd h (by decide), fun h => absurd h (by decide), fun h => absurd h (by decide)⟩
theorem nt_inf : NT [43, 73, 110, 102] infW := ⟨.inr (.inl ⟨rfl, rfl⟩), fun h => absurd h (by decide), fun h => absurd h (by decide), fun h => absurd h (by decide), fun h => absurd h (by decide)⟩
theorem nt_ninf : NT [45, 73, 110, 102] ninfW := ⟨.inr (.inr (.inl ⟨rfl, rfl⟩)), fun h => absurd h (by decide), fun h => absurd h (by decide), fun h => absurd h (by decide), fun h => absurd h (by decide)⟩
/-- The parts of a float's bits. -/
structure FParts (x : Nat) (neg : Bool) (ex mant : Nat) : Prop where
  sg : ((x : Int) / 9223372036854775808 != 0) = neg
  ex_ : bits .and .i64 ((x : Int) / 4503599627370496) 2047 = (ex : Int)
  mn : bits .and .u64 (x : Int) 4503599627370495 = (mant : Int)
  e1 : ex < 2048
  m1 : mant < 4503599627370496
  eq : x = Fl.wordOf neg (ex * 4503599627370496 + mant)
theorem parts_of (x : Nat) (hx : x < 18446744073709551616) : ∃ neg ex mant, FParts x neg ex mant := by
  refine ⟨decide (9223372036854775808 ≤ x), x / 4503599627370496 % 2048, x % 4503599627370496, ?_, ?_, mask52 x hx, Nat.mod_lt _ (by decide), Nat.mod_lt _ (by decide), ?_⟩
  · by_cases h : 9223372036854775808 ≤ x
    · rw [decide_eq_true h, bne_iff_ne]; omega
    · rw [decide_eq_false h, bne_eq_false_iff_eq]; omega
  · rw [show (x : Int) / 4503599627370496 = ((x / 4503599627370496 : Nat) : Int) by omega]
    have h2 := i64_and_nat (x / 4503599627370496) 2047 (by omega) (by decide)
    rw [show x / 4503599627370496 &&& 2047 = x / 4503599627370496 % 2048 from Nat.and_two_pow_sub_one_eq_mod _ 11] at h2
    exact h2
  · unfold Fl.wordOf
    by_cases h : 9223372036854775808 ≤ x
    · rw [if_pos (decide_eq_true h)]; omega
    · rw [if_neg (by simpa using h)]; omega
theorem buf_zero (w : World) (cs : Array Value) (t : TypeId) (h : cs = (List.replicate 32 (.int .u8 0) : List Value).toArray) : ∀ j, j < 32 → (w.alloc (.cells cs t)).cell? ⟨w.heap.size, j, none⟩ = some (.int .u8 0) ∧ (w.alloc (.cells cs t)).frozen? ⟨w.heap.size, j, none⟩ = false := by
  intro j hj
  have hb := Blk.new w t cs
  refine ⟨?_, hb.frozen j⟩
  rw [hb.cell, h, List.getElem?_toArray, List.getElem?_replicate, if_pos hj]
set_option maxRecDepth 100000 in
set_option maxHeartbeats 8000000 in
theorem ftoa_any (B d x : Nat) (w : World) (hG : Glob B w) (hx : Fl.Good x) (hown : w.ownsRow d 5 1 (.slice (some ⟨d, 0, none⟩) 0 24) 0 []) :
    Calls Tryz.prog 84 #[.slice (some ⟨d, 0, none⟩) 0 24, .float .f64 x, .int .u8 103, .int .i64 (-1)] w (FtOut d x w) := by
  obtain ⟨i0, hi, hz0, hz1, hz2⟩ := info_parts info5
  obtain ⟨hx64, hgood⟩ := hx
  obtain ⟨neg, ex, mant, HP⟩ := parts_of x hx64
  have h92 := run92 x
  have hwq : wrap64 ((x : Int) / 4503599627370496) = (x : Int) / 4503599627370496 := by unfold wrap64; omega
  have hsg := HP.sg
  have hex := HP.ex_
  have hmn := HP.mn
  have he1 := HP.e1
  have hm1 := HP.m1
  have heq := hide HP.eq
  have hD : Hid (Dst d [] w w) := hide ⟨hown, World.grownBy.refl w _⟩
  have hdl : d < w.heap.size := (hown.lt _ rfl).2
  replace hG := hide hG
  replace hgood := hide hgood
  clear HP hown hx64
  go_enter Tryz.func84, Tryz.ntmps84
  go_upto_region 14 with (fail)
  go_quiet (fail)
  by_cases h47 : ex = 2047
  · subst h47
    have hown := hide hD.out.own
    have hu9 : Tryz.prog.underlying 9 = some .string := by kernel_rfl
    by_cases hm0 : mant = 0
    · subst hm0
      have hxe := heq.out
      clear hwq hgood
      cases neg
      · have hxi : Hid (x = infW) := hide hxe
        clear hxe
        go_wp2_with (first | (at_builtin; refine Lib.wpList_append_fits_string _ rfl _ _ 66 9 rfl d 5 i0 under66 hu9 hi hz1 _ _ _ _ rfl hown.out ⟨#[43, 73, 110, 102]⟩ rfl (by decide) (by decide) ?_; intro w1 ho hg; (have hD1 : Hid (Dst d (([] : List UInt8) ++ [43, 73, 110, 102]) w w1) := hide ((hD.out.drewN nq).put (l' := [43, 73, 110, 102]) rfl rfl ho hg))))
        go_ret
        exact ⟨[43, 73, 110, 102], rfl, by rw [hxi.out]; exact nt_inf, by decide, hD1.out⟩
      · have hxi : Hid (x = ninfW) := hide hxe
        clear hxe
        go_wp2_with (first | (at_builtin; refine Lib.wpList_append_fits_string _ rfl _ _ 66 9 rfl d 5 i0 under66 hu9 hi hz1 _ _ _ _ rfl hown.out ⟨#[45, 73, 110, 102]⟩ rfl (by decide) (by decide) ?_; intro w1 ho hg; (have hD1 : Hid (Dst d (([] : List UInt8) ++ [45, 73, 110, 102]) w w1) := hide ((hD.out.drewN nq).put (l' := [45, 73, 110, 102]) rfl rfl ho hg))))
        go_ret
        exact ⟨[45, 73, 110, 102], rfl, by rw [hxi.out]; exact nt_ninf, by decide, hD1.out⟩
    · have hm0b : ((mant : Int) != 0) = true := by simp; omega
      have hxn : Hid (x = nanW) := hide (by
        have h1 := hgood.out
        have h2 := heq.out
        unfold Fl.wordOf at h2
        unfold nanW
        cases neg
        · simp only [Bool.false_eq_true, if_false] at h2; omega
        · simp only [if_true] at h2; omega)
      clear hwq hgood
      go_wp2_with (first | (at_builtin; refine Lib.wpList_append_fits_string _ rfl _ _ 66 9 rfl d 5 i0 under66 hu9 hi hz1 _ _ _ _ rfl hown.out ⟨#[78, 97, 78]⟩ rfl (by decide) (by decide) ?_; intro w1 ho hg; (have hD1 : Hid (Dst d (([] : List UInt8) ++ [78, 97, 78]) w w1) := hide ((hD.out.drewN nq).put (l' := [78, 97, 78]) rfl rfl ho hg))))
      go_ret
      exact ⟨[78, 97, 78], rfl, by rw [hxn.out]; exact nt_nan, by decide, hD1.out⟩
  · have h47b : ((ex : Int) == 2047) = false := by simp; omega
    go_upto_if 78 with (fail)
    go_cut [14, 15] (fun s14 s15 w' => (∃ (k M : Nat), s14 = .int .i64 ((k : Int) + 1) ∧ s15 = .int .u64 M ∧ k < 2046 ∧ M < 9007199254740992 ∧ Hid (k = 0 ∨ 4503599627370496 ≤ M) ∧ Hid (x = wordP neg M k)) ∧ w.drewN nq = w')
    case first =>
      as_aux_lemma =>
      by_cases h0 : ex = 0
      · subst h0
        go_wp2
        go_meet; case rel => exact ⟨⟨0, mant, rfl, rfl, by omega, by omega, hide (.inl rfl), hide (by rw [heq.out]; unfold wordP; rfl)⟩, rfl⟩
      · have h0b : ((ex : Int) == 0) = false := by simp; omega
        have hor : bits .or .u64 (mant : Int) 4503599627370496 = ((mant + 4503599627370496 : Nat) : Int) := by
          have h2 := u64_or_nat mant 4503599627370496 (by omega) (by decide)
          rw [Nat.or_comm, nat_join 52 _ _ (by decide) hm1, Nat.add_comm] at h2
          exact h2
        have e5 : ex * 4503599627370496 + mant = (ex - 1) * 4503599627370496 + (mant + 4503599627370496) := by omega
        have hxw : Hid (x = wordP neg (mant + 4503599627370496) (ex - 1)) := hide (by rw [heq.out, e5]; rfl)
        have hM5 : mant + 4503599627370496 < 9007199254740992 := by omega
        have hM6 : Hid (ex - 1 = 0 ∨ 4503599627370496 ≤ mant + 4503599627370496) := hide (.inr (by omega))
        clear e5
        go_wp2
        go_meet; case rel => exact ⟨⟨ex - 1, mant + 4503599627370496, vint (by omega), rfl, by omega, hM5, hM6, hxw⟩, rfl⟩
    case rest =>
    as_aux_lemma =>
    obtain ⟨⟨k, M, rfl, rfl, hk, hM, hkM, hxe⟩, rfl⟩ := hcut
    clear hwq hex hmn hsg heq he1 hm1 h47 h47b
    clear hgood
    have hown := hide hD.out.own
    by_cases hM0 : M = 0
    · subst hM0
      have hk0 : k = 0 := by rcases hkM.out with h | h <;> omega
      subst hk0
      have hxz : Hid (x = Fl.wordOf neg 0) := hide hxe.out
      have KZ : Hid (∀ n, Calls Tryz.prog 95 #[.slice (some ⟨d, 0, none⟩) 0 24, .bool neg, .slice none 0 0, .int .i64 0, .int .i64 0, .int .i64 (-1), .int .u8 103, .bool true] (w.drewN n) (EfgOut d (gT neg [] 0) (w.drewN n))) := hide fun n => efg_zero d neg (w.drewN n) ⟨hown.out, World.grownBy.refl _ _⟩
      go_wp2_with (first
        | (go_at_call 95; (with_reducible refine (KZ.out _).mono ?_); rintro e w1 ⟨rfl, hD1⟩; replace hD1 := hide hD1))
      go_ret
      refine ⟨gT neg [] 0, rfl, ?_, gT_len neg [] 0 (by simp), hD1.out.undrew⟩
      rw [hxz.out]
      exact zero_text neg
    · have hM0b : ((M : Int) == 0) = false := by simp; omega
      obtain ⟨b1, b64, blo, bhi⟩ := bitLen_facts M (by omega) (by omega)
      obtain ⟨bl, hbl⟩ : ∃ b, Lib.bitLen M = b := ⟨_, rfl⟩
      have K96 : Hid (∀ W : World, Calls Tryz.prog 96 #[.int .u64 M] W fun e w' => e = .returned (.int .i64 (bl : Int)) ∧ W = w') := hide fun W => by rw [← hbl]; exact len64_any M (by omega) W
      rw [hbl] at b1 b64 blo bhi
      obtain ⟨z, hz⟩ : ∃ z, 64 - bl = z := ⟨_, rfl⟩
      have hX1 : M * 2 ^ z < 18446744073709551616 := by
        have := Nat.mul_lt_mul_of_pos_right bhi (Nat.two_pow_pos (64 - bl))
        rw [← Nat.pow_add, show bl + (64 - bl) = 64 by omega, hz] at this
        omega
      have hX0 : 9223372036854775808 ≤ M * 2 ^ z := by
        have := Nat.mul_le_mul_right (2 ^ (64 - bl)) blo
        rw [← Nat.pow_add, show bl - 1 + (64 - bl) = 63 by omega, hz] at this
        omega
      have H : FlIn M k z := ⟨by omega, hM, hkM.out, hk, hX0, hX1⟩
      have hzi : 64 - (bl : Int) = z := by omega
      have hsh : IntKind.u64.wrap ((M : Int) * 2 ^ z) = ((M * 2 ^ z : Nat) : Int) := by
        rw [IntKind.wrap_u64, show (M : Int) * 2 ^ z = ((M * 2 ^ z : Nat) : Int) by rw [Int.natCast_mul, Int.natCast_pow]; rfl]
        omega
      have KS : ∀ (W : World) (y : Int), Glob B W → y = (k : Int) - 1074 - z → Calls Tryz.prog 105 #[.int .u64 ((M * 2 ^ z : Nat) : Int), .int .i64 y] W fun e w' => e = .returned (.tuple #[.int .u64 (sR M k z).1, .int .i64 (sE M k z)]) ∧ Below W.heap.size W w' := fun W y hW hy => by
        subst hy; exact short_any B M k z W hW H
      obtain ⟨X, hX⟩ : ∃ X, M * 2 ^ z = X := ⟨_, rfl⟩
      obtain ⟨D, hDD⟩ : ∃ D, (sR M k z).1 = D := ⟨_, rfl⟩
      obtain ⟨P, hPP⟩ : ∃ P, sE M k z = P := ⟨_, rfl⟩
      have hsok := H.near.2
      have hDlt : D < 100000000000000000 := by rw [← hDD]; exact hsok.lt
      have hD0 : 0 < D := by rw [← hDD]; exact hsok.pos
      have hP0 : -325 < P := by rw [← hPP]; exact hsok.P0
      have hP1 : P < 294 := by rw [← hPP]; exact hsok.P1
      rw [hX] at hsh KS
      rw [hDD, hPP] at KS
      have z63 := H.z63
      replace KS := hide KS
      have HH := hide H
      replace hX := hide hX
      replace hDD := hide hDD
      replace hPP := hide hPP
      clear H hsok hbl blo bhi hX0 hX1 hz
      go_upto_region 38 with (first
        | (go_at_call 96; (with_reducible refine (K96.out _).mono ?_); rintro e w' ⟨rfl, rfl⟩)
        | (go_at_call 105; refine (KS.out _ _ ((hG.out.drewN nq).up (below_alloc _ _)) (by omega)).mono ?_; rintro e w1 ⟨rfl, hb1⟩; replace hb1 := hide hb1))
      have hbz : Hid (∀ j, j < 32 → w1.cell? ⟨w.heap.size, j, none⟩ = some (.int .u8 0) ∧ w1.frozen? ⟨w.heap.size, j, none⟩ = false) := hide fun j hj => by
        obtain ⟨h1, h2⟩ := buf_zero (w.drewN nq) _ 168 rfl j hj
        exact ⟨(hb1.out.cell (p := ⟨w.heap.size, j, none⟩) (by simp)).trans h1, (hb1.out.frozen (p := ⟨w.heap.size, j, none⟩) (by simp)).trans h2⟩
      have hG1 := hide (((hG.out.drewN nq).up (below_alloc _ _)).up hb1.out)
      have hbw : Hid (Below w.heap.size w w1) := hide ((below_drewN (Below.refl _ _) nq).trans ((below_alloc (w.drewN nq) _).trans (hb1.out.mono (by simp))))
      obtain ⟨nn, hnn⟩ : ∃ nn, Lib.nDigits D = nn := ⟨_, rfl⟩
      have hn17 : nn ≤ 17 := by rw [← hnn]; exact ndig_17 hDlt
      have K99 : Hid (∀ n, Calls Tryz.prog 99 #[.int .u64 D] (w1.drewN n) fun e w' => e = .returned (.int .i64 nn) ∧ w1.drewN n = w') := hide fun n => by
        rw [← hnn]; exact (Tryz.internal_strconv_numDigits D (by omega) (by omega) _ (hG1.out.drewN n).tab).mono fun _ _ ⟨h1, h2⟩ => ⟨h1, h2.symm⟩
      have K98 : Hid (∀ n, Calls Tryz.prog 98 #[.slice (some ⟨w.heap.size, 0, none⟩) 32 32, .int .u64 D, .int .i64 P, .int .i64 nn] (w1.drewN n) fun e w' => (∃ v, e = .returned v ∧ SdRes (Lib.decDigits D) nn P v) ∧ DigAt w.heap.size (Lib.decDigits D) w' ∧ Below w.heap.size (w1.drewN n) w') := hide fun n => by
        rw [← hnn]; exact setd_any w.heap.size D P _ hDlt (by omega) (by omega) hbz.out
      replace hnn := hide hnn
      clear hbz KS K96 hb1
      go_cut [22, 23] (fun s22 s23 wq => ∃ nz : Nat, s22 = .int .i64 ((nn : Int) + P) ∧ s23 = .int .i64 nz ∧ Hid (Trim (Lib.decDigits D) nz) ∧ Hid (DigAt w.heap.size (Lib.decDigits D) wq) ∧ Hid (Below w.heap.size w1 wq))
      case first =>
        as_aux_lemma =>
        go_region_law (first
          | (go_simp; go_at_call 99; refine (K99.out _).mono ?_; rintro e w' ⟨rfl, rfl⟩)
          | (go_simp; go_at_call 98; refine (K98.out _).mono ?_; rintro e w2 ⟨⟨v, rfl, nz, rfl, hT⟩, hd, hb2⟩; replace hT := hide hT; replace hd := hide hd; replace hb2 := hide ((below_drewN (Below.refl _ _) _).trans hb2)))
        go_wp2
        go_meet; case rel => exact ⟨nz, rfl, rfl, hT, hd, hb2⟩
      case rest =>
      as_aux_lemma =>
      obtain ⟨nz, rfl, rfl, hT, hd, hb2⟩ := hcut
      have hlen := dec_len D
      have hle := hT.out.le
      have hval := trim_val hT.out
      rw [dec_val] at hval
      rw [hlen, hnn.out] at hle
      have hl2 : ((Lib.decDigits D).take nz).length = nz := by rw [List.length_take, hlen, hnn.out]; omega
      have hnz : 0 < nz := by
        rcases Nat.eq_zero_or_pos nz with h0 | h0
        · subst h0
          have : dva 0 ((Lib.decDigits D).take 0) = 0 := rfl
          rw [this, Nat.zero_mul] at hval
          omega
        · exact h0
      have hbw2 : Hid (Below w.heap.size w wc) := hide (hbw.out.trans hb2.out)
      have hDc : Dst d [] wc wc := ⟨own_below hown.out hbw2.out, World.grownBy.refl _ _⟩
      have hdt : DigAt w.heap.size ((Lib.decDigits D).take nz) wc := fun i c hc => hd.out i c (by
        have hi := (List.getElem?_eq_some_iff.mp hc).1
        rw [hl2] at hi
        rw [List.getElem?_take_of_lt hi] at hc; exact hc)
      have K95 : Hid (Calls Tryz.prog 95 #[.slice (some ⟨d, 0, none⟩) 0 24, .bool neg, .slice (some ⟨w.heap.size, 0, none⟩) 32 32, .int .i64 ((nn : Int) + P), .int .i64 nz, .int .i64 nz, .int .u8 103, .bool true] wc (EfgOut d (gT neg ((Lib.decDigits D).take nz) ((nn : Int) + P)) wc)) := hide (by
        have := efg_any d w.heap.size neg ((Lib.decDigits D).take nz) ((nn : Int) + P) wc hDc hdt (by omega) (by rw [hl2]; exact hnz) (by rw [hl2]; omega) (by omega)
        rw [hl2] at this
        exact this)
      have hfin : Hid (NT (gT neg ((Lib.decDigits D).take nz) ((nn : Int) + P)) x ∧ (gT neg ((Lib.decDigits D).take nz) ((nn : Int) + P)).length ≤ 24) := hide (by
        have := num_text (neg := neg) HH.out (nz := nz) (by rw [hDD.out]; exact hT.out)
        rw [hDD.out, hPP.out, hnn.out] at this
        rw [hxe.out]
        exact ⟨this, gT_len _ _ _ (by rw [hl2]; omega)⟩)
      clear hlen hval hl2 hDc hdt K98 K99
      replace hle := hide hle
      go_wp2_with (first
        | (go_at_call 95; (with_reducible refine K95.out.mono ?_); rintro e w3 ⟨rfl, hD3⟩; replace hD3 := hide hD3))
      go_ret
      exact ⟨_, rfl, hfin.out.1, hfin.out.2, hD3.out.own, grown_trans (grown_below hbw2.out _) hD3.out.gr⟩
end Go.Proofs.YtgmbjdoifkjdhaaGreatDoor
