/- readFloat, of a text that is not hexadecimal. -/
import Derived.Test.YtgmbjdoifkjdhaaGreatDoorKv
namespace Go.Proofs.YtgmbjdoifkjdhaaGreatDoor
open Go.RowKit

def DcSt (s : ByteArray) (k0 : Nat) (m nd nm : Nat) (dp : Int) (dot dig und tr : Bool) (k : Nat) : Prop :=
  nd ≤ k ∧ nm ≤ 19 ∧ -(k : Int) ≤ dp ∧ dp ≤ k ∧ m < 10 ^ nm ∧ k ≤ s.size ∧ Sc.run ((bs s).drop k) ⟨m, nd, nm, dp, dot, dig, und, tr⟩ = Sc.run ((bs s).drop k0) Sc.zero
def DcEnd (s : ByteArray) (k0 : Nat) (m nd nm : Nat) (dp : Int) (dot dig und tr : Bool) (k : Nat) : Prop :=
  nd ≤ k ∧ nm ≤ 19 ∧ -(k : Int) ≤ dp ∧ dp ≤ k ∧ m < 10 ^ nm ∧ k ≤ s.size ∧ Sc.run ((bs s).drop k0) Sc.zero = (⟨m, nd, nm, dp, dot, dig, und, tr⟩, (bs s).drop k)
/-- What is known of a literal behind the scan. -/
def DcLit (s : ByteArray) (ng : Bool) (m nm : Nat) (dp : Int) (und tr : Bool) (k : Nat) : Prop :=
  ∀ n d e, Lit (bs s) n d e → n = ng ∧ ∃ ev, ExT ((bs s).drop k) ev ∧ m = d ∧ und = false ∧ tr = false ∧ e = ev + dp - nm
theorem dc_lit {s : ByteArray} {ng : Bool} {k0 m nd nm : Nat} {dp : Int} {dot dig und tr : Bool} {k : Nat} (H1 : Rf1 s ng k0) (h : DcEnd s k0 m nd nm dp dot dig und tr k) :
    DcLit s ng m nm (if dot then dp else nd) und tr k ∧ ∀ n d e, Lit (bs s) n d e → dig = true := by
  obtain ⟨_, _, _, _, _, _, hr⟩ := h
  have key : ∀ n d e, Lit (bs s) n d e → (n = ng ∧ ∃ ev, ExT ((bs s).drop k) ev ∧ m = d ∧ und = false ∧ tr = false ∧ e = ev + (if dot then dp else nd) - nm) ∧ dig = true := by
    intro n d e hl
    obtain ⟨h1, h2⟩ := H1.2.2 n d e hl
    obtain ⟨s', ex, ev, h3, h4, h5, h6, h7, h8, h9, h10⟩ := lit_scan h2
    rw [hr] at h3
    injection h3 with e1 e2
    subst e1; subst e2
    exact ⟨⟨h1, ev, h4, h5, h8, h9, h10⟩, h7⟩
  exact ⟨fun n d e hl => (key n d e hl).1, fun n d e hl => (key n d e hl).2⟩

/-- Digits that are an exponent. -/
def DigEx (l : List UInt8) (es ev : Int) : Prop := (∀ c ∈ l, isD c) ∧ l ≠ [] ∧ dva 0 l < 10000 ∧ ev = es * dva 0 l
/-- What is known of a literal behind the exponent. -/
def DcFin (s : ByteArray) (ng : Bool) (m nm : Nat) (dp : Int) (und tr : Bool) (k : Nat) : Prop :=
  ∀ n d e, Lit (bs s) n d e → n = ng ∧ k = s.size ∧ m = d ∧ und = false ∧ tr = false ∧ e = dp - nm
theorem rf_res {s : ByteArray} {v : Value} {m : Nat} {x : Int} {neg tr : Bool} {i : Nat} {ok : Bool} (hv : v = .tuple #[.int .u64 m, .int .i64 x, .bool neg, .bool tr, .bool false, .int .i64 i, .bool ok]) (hi : i ≤ s.size) (hm : m < 10000000000000000000) (h0 : -1125899906842624 ≤ x) (h1 : x ≤ 1125899906842624)
    (hl : ∀ n d e, Lit (bs s) n d e → ok = true ∧ tr = false ∧ i = s.size ∧ m = d ∧ neg = n ∧ (d ≠ 0 → x = e)) :
    RfRes s v :=
  ⟨m, x, neg, tr, false, i, ok, hv, hi, by omega, fun _ => by omega, h0, h1, fun n d e h => ⟨(hl n d e h).1, rfl, (hl n d e h).2⟩⟩
theorem room19 {m nm : Nat} (hm : m < 10 ^ nm) (hn : nm ≤ 19) : m < 10000000000000000000 := by
  have : 10 ^ nm ≤ 10 ^ 19 := Nat.pow_le_pow_right (by decide) (by omega)
  exact Nat.lt_of_lt_of_le hm this
theorem ext_head {c : UInt8} {t : List UInt8} {ev : Int} (h : ExT (c :: t) ev) : c = 101 ∧ t ≠ [] := by
  cases h with
  | plus _ _ _ => exact ⟨rfl, by simp⟩
  | minus _ _ _ => exact ⟨rfl, by simp⟩
theorem ext_sign {c a : UInt8} {t : List UInt8} {ev : Int} (h : ExT (c :: a :: t) ev) : (a = 43 ∧ DigEx t 1 ev) ∨ (a = 45 ∧ DigEx t (-1) ev) := by
  cases h with
  | plus h1 h2 h3 => exact .inl ⟨rfl, h1, h2, h3, by omega⟩
  | minus h1 h2 h3 => exact .inr ⟨rfl, h1, h2, h3, by omega⟩
theorem exa_cases (c : UInt8) (t : List UInt8) (e : Nat) (u : Bool) :
    (48 ≤ (c.toNat : Int) ∧ (c.toNat : Int) ≤ 57 ∧ Hid (exa (c :: t) e u = exa t (if e < 10000 then e * 10 + (c.toNat - 48) else e) u)) ∨
    ((c.toNat : Int) = 95 ∧ Hid (exa (c :: t) e u = exa t e true)) ∨
    (¬ (c.toNat : Int) = 95 ∧ (¬ 48 ≤ (c.toNat : Int) ∨ ¬ (c.toNat : Int) ≤ 57) ∧ Hid (exa (c :: t) e u = (e, u, c :: t))) := by
  by_cases hd : isD c
  · exact .inl ⟨by unfold isD at hd; omega, by unfold isD at hd; omega, hide (by simp only [exa, if_pos hd])⟩
  · by_cases h1 : (c.toNat : Int) = 95
    · have e1 : c = 95 := u8_of (n := 95) (by decide) h1
      exact .inr (.inl ⟨h1, hide (by simp only [exa, if_neg hd, if_pos e1])⟩)
    · have e1 : ¬ c = 95 := u8_no (n := 95) (by decide) h1
      exact .inr (.inr ⟨h1, by unfold isD at hd; omega, hide (by simp only [exa, if_neg hd, if_neg e1])⟩)

set_option maxRecDepth 100000 in
set_option maxHeartbeats 16000000 in
theorem rf_dec (s : ByteArray) (w : World) (hs : s.size ≤ 1099511627776) (hnx : ¬ Hexy s) :
    Calls Tryz.prog 134 #[.string s] w fun e w' => (∃ v, e = .returned v ∧ RfRes s v) ∧ w = w' := by
  by_cases h0 : 0 < s.size
  case neg =>
    obtain rfl : s = ByteArray.empty := ByteArray.size_eq_zero_iff.mp (by omega)
    go_enter Tryz.func134, Tryz.ntmps134
    go_wp2
    refine wp_scope_straight ?_
    go_wp2
    (try simp only [Exit.noGoto_ret])
    refine bodyPost_ret (results_tmp7 rfl _ _ _) rfl ⟨⟨_, rfl, 0, 0, _, _, _, 0, _, rfl, by omega, by omega, fun _ => by omega, by omega, by omega, fun n m e hl => absurd (lit_head hl).1 h0⟩, rfl⟩
  replace hnx := hide hnx
  go_enter Tryz.func134, Tryz.ntmps134
  go_wp2
  refine wp_scope_straight ?_
  go_upto_block 0 with (fail)
  · rename_i he
    subst he
    exact absurd h0 (by decide)
  rename_i he
  go_cut [4, 7] (fun s4 s7 w' => (∃ (ng : Bool) (k : Nat), s4 = .bool ng ∧ s7 = .int .i64 k ∧ k ≤ s.size ∧ Hid (Rf1 s ng k)) ∧ w = w')
  case first =>
    --[[sign
    as_aux_lemma =>
    go_wp2
    · rename_i h
      go_meet; case rel => exact ⟨⟨false, 1, rfl, rfl, by omega, hide (rf1_plus h0 (by simpa using h))⟩, rfl⟩
    · rename_i h1 h
      go_meet; case rel => exact ⟨⟨true, 1, rfl, rfl, by omega, hide (rf1_minus h0 (by simpa using h))⟩, rfl⟩
    · rename_i h1 h
      go_meet; case rel => exact ⟨⟨false, 0, rfl, rfl, by omega, hide (rf1_none h0 (by simpa using h1) (by simpa using h))⟩, rfl⟩
    --]]sign
  case rest =>
  as_aux_lemma =>
  obtain ⟨⟨ng, k0, rfl, rfl, hk0, H1⟩, rfl⟩ := hcut
  go_upto_region 12 with (fail)
  go_cut [54] (fun s54 w' => s54 = .bool false ∧ w = w')
  case first =>
    --[[hex
    as_aux_lemma =>
    have hn2 : ∀ (h1 : k0 < s.size) (h2 : k0 + 1 < s.size), k0 + 2 < s.size → (s[k0].toNat : Int) = 48 → lowB s[k0 + 1] = 120 → False := fun h1 h2 h3 h4 h5 => hnx.out (by
      have hk := H1.out.1
      subst hk
      exact ⟨h1, h2, h3, h4, h5⟩)
    by_cases hk2 : k0 + 2 < s.size
    · have h1 : k0 < s.size := by omega
      have h2 : k0 + 1 < s.size := by omega
      by_cases h48 : (s[k0].toNat : Int) = 48
      · have hl : (lowB s[k0 + 1] == 120) = false := by
          cases hb : (lowB s[k0 + 1] == 120) with
          | false => rfl
          | true => exact (hn2 h1 h2 hk2 h48 (by simpa using hb)).elim
        clear hn2
        go_wp2_with (first | (go_at_call 114; (with_reducible refine (lower_any _ _).mono ?_); rintro e w' ⟨rfl, rfl⟩))
        go_meet; case rel => exact ⟨rfl, rfl⟩
      · clear hn2
        go_wp2
        go_meet; case rel => exact ⟨rfl, rfl⟩
    · clear hn2
      go_wp2
      go_meet; case rel => exact ⟨rfl, rfl⟩
    --]]hex
  case rest =>
  as_aux_lemma =>
  obtain ⟨rfl, rfl⟩ := hcut
  go_upto_block 1 with (fail)
  refine wp_label ?_
  go_upto_block 1 with (fail)
  go_cut [2, 5, 7, 9, 13, 14, 15, 16, 17] (fun s2 s5 s7 s9 s13 s14 s15 s16 s17 w' => (∃ (m nd nm : Nat) (dp : Int) (dot dig und tr : Bool) (k : Nat), s2 = .int .u64 m ∧ s5 = .bool tr ∧ s7 = .int .i64 k ∧ s9 = .bool und ∧ s13 = .bool dot ∧ s14 = .bool dig ∧ s15 = .int .i64 nd ∧ s16 = .int .i64 nm ∧ s17 = .int .i64 dp ∧ Hid (DcEnd s k0 m nd nm dp dot dig und tr k)) ∧ w = w')
  case first =>
    --[[loop
    as_aux_lemma =>
    go_wp2
    go_loop [2, 5, 7, 9, 13, 14, 15, 16, 17] (fun s2 s5 s7 s9 s13 s14 s15 s16 s17 => ∃ (m nd nm : Nat) (dp : Int) (dot dig und tr : Bool) (k : Nat), s2 = .int .u64 m ∧ s5 = .bool tr ∧ s7 = .int .i64 k ∧ s9 = .bool und ∧ s13 = .bool dot ∧ s14 = .bool dig ∧ s15 = .int .i64 nd ∧ s16 = .int .i64 nm ∧ s17 = .int .i64 dp ∧ Hid (DcSt s k0 m nd nm dp dot dig und tr k)) (fun _ _ s7 _ _ _ _ _ _ => s.size - (intOf s7).toNat)
    case atStart => exact ⟨0, 0, 0, 0, _, _, _, _, k0, rfl, rfl, rfl, rfl, rfl, rfl, rfl, rfl, rfl, hide ⟨by omega, by omega, by omega, by omega, by simp, hk0, rfl⟩⟩
    case round =>
      obtain ⟨m, nd, nm, dp, dot, dig, und, tr, k, rfl, rfl, rfl, rfl, rfl, rfl, rfl, rfl, rfl, H⟩ := hrel
      obtain ⟨b1, b2, b3, b4, b5, b6, b7⟩ := H.out
      clear H
      replace b5 := hide b5
      replace b7 := hide b7
      by_cases hlt : k < s.size
      case neg =>
        as_aux_lemma =>
        go_wp2
        go_meet; case rel =>
        refine ⟨⟨m, nd, nm, dp, dot, dig, und, tr, k, rfl, rfl, rfl, rfl, rfl, rfl, rfl, rfl, rfl, hide ⟨b1, b2, b3, b4, b5.out, b6, ?_⟩⟩, rfl⟩
        rw [← b7.out, bs_drop_nil s k hlt]; rfl
      have hd := hide (bs_drop s k hlt)
      have e7 : Hid (Sc.run (s[k] :: (bs s).drop (k + 1)) ⟨m, nd, nm, dp, dot, dig, und, tr⟩ = Sc.run ((bs s).drop k0) Sc.zero) := by rw [← hd.out]; exact b7.out
      replace b7 := e7
      clear e7
      rcases sc_cases s[k] ((bs s).drop (k + 1)) m nd nm dp dot dig und tr with ⟨c1, he⟩ | ⟨c1, rfl, he⟩ | ⟨c1, rfl, he⟩ | ⟨c1, rfl, he⟩ | ⟨c1, c2, he⟩ | ⟨c1, c2, he⟩ | ⟨c1, c2, c3, he⟩
      all_goals have he2 := hide (he.out.symm.trans b7.out)
      all_goals clear he b7
      ·
        --[[d0
        as_aux_lemma =>
        go_wp2
        exact ⟨⟨m, nd, nm, dp, dot, dig, true, tr, k + 1, rfl, rfl, rfl, rfl, rfl, rfl, rfl, rfl, rfl, hide ⟨by omega, b2, by omega, by omega, b5.out, hlt, he2.out⟩⟩, by simp [intOf]; omega⟩
        --]]d0
      ·
        --[[d1
        as_aux_lemma =>
        go_wp2
        go_meet; case rel =>
        exact ⟨⟨m, nd, nm, dp, true, dig, und, tr, k, rfl, rfl, rfl, rfl, rfl, rfl, rfl, rfl, rfl, hide ⟨b1, b2, b3, b4, b5.out, b6, by rw [hd.out]; exact he2.out.symm⟩⟩, rfl⟩
        --]]d1
      ·
        --[[d2
        as_aux_lemma =>
        go_wp2
        exact ⟨⟨m, nd, nm, nd, true, dig, und, tr, k + 1, rfl, rfl, rfl, rfl, rfl, rfl, rfl, rfl, rfl, hide ⟨by omega, b2, by omega, by omega, b5.out, hlt, he2.out⟩⟩, by simp [intOf]; omega⟩
        --]]d2
      ·
        --[[d3
        as_aux_lemma =>
        go_wp2
        exact ⟨⟨m, 0, nm, dp - 1, dot, true, und, tr, k + 1, rfl, rfl, rfl, rfl, rfl, rfl, rfl, rfl, rfl, hide ⟨by omega, b2, by omega, by omega, b5.out, hlt, he2.out⟩⟩, by simp [intOf]; omega⟩
        --]]d3
      ·
        --[[d4
        by_cases hnm : nm < 19
        · as_aux_lemma =>
          have hm := room10 b5.out hnm
          go_wp2
          refine ⟨⟨m * 10, nd + 1, nm + 1, dp, dot, true, und, tr, k + 1, vint (by omega), rfl, rfl, rfl, rfl, rfl, rfl, rfl, rfl, hide ⟨by omega, hnm, by omega, by omega, pow_step (d := 0) b5.out (by omega), hlt, ?_⟩⟩, by simp [intOf]; omega⟩
          have h2 := he2.out
          rw [if_pos (by omega), show s[k].toNat - 48 = 0 by omega] at h2
          exact h2
        · as_aux_lemma =>
          go_wp2
          refine ⟨⟨m, nd + 1, nm, dp, dot, true, und, tr, k + 1, rfl, rfl, rfl, rfl, rfl, rfl, rfl, rfl, rfl, hide ⟨by omega, b2, by omega, by omega, b5.out, hlt, ?_⟩⟩, by simp [intOf]; omega⟩
          have h2 := he2.out
          rw [if_neg (by omega)] at h2
          exact h2
        --]]d4
      ·
        --[[d5
        by_cases hnm : nm < 19
        · as_aux_lemma =>
          have hm := room10 b5.out hnm
          go_wp2
          refine ⟨⟨m * 10 + (s[k].toNat - 48), nd + 1, nm + 1, dp, dot, true, und, tr, k + 1, vint (by omega), rfl, rfl, rfl, rfl, rfl, rfl, rfl, rfl, hide ⟨by omega, hnm, by omega, by omega, pow_step b5.out (by omega), hlt, ?_⟩⟩, by simp [intOf]; omega⟩
          have h2 := he2.out
          rw [if_pos (by omega)] at h2
          exact h2
        · as_aux_lemma =>
          go_wp2
          refine ⟨⟨m, nd + 1, nm, dp, dot, true, und, true, k + 1, rfl, rfl, rfl, rfl, rfl, rfl, rfl, rfl, rfl, hide ⟨by omega, b2, by omega, by omega, b5.out, hlt, ?_⟩⟩, by simp [intOf]; omega⟩
          have h2 := he2.out
          rw [if_neg (by omega)] at h2
          exact h2
        --]]d5
      ·
        --[[d6
        rcases c3 with c3 | c3
        all_goals (as_aux_lemma =>
          go_wp2
          go_meet; case rel =>
          exact ⟨⟨m, nd, nm, dp, dot, dig, und, tr, k, rfl, rfl, rfl, rfl, rfl, rfl, rfl, rfl, rfl, hide ⟨b1, b2, b3, b4, b5.out, b6, by rw [hd.out]; exact he2.out.symm⟩⟩, rfl⟩)
        --]]d6
    --]]loop
  case rest =>
  as_aux_lemma =>
  obtain ⟨⟨m, nd, nm, dp, dot, dig, und, tr, k, rfl, rfl, rfl, rfl, rfl, rfl, rfl, rfl, rfl, H⟩, rfl⟩ := hcut
  obtain ⟨hL, hL2⟩ := dc_lit H1.out H.out
  obtain ⟨b1, b2, b3, b4, b5, b6, _⟩ := H.out
  clear H H1
  replace hL := hide hL
  replace hL2 := hide hL2
  replace b5 := hide b5
  have hm := room19 b5.out b2
  clear b5
  cases dig
  · --[[nodig
    as_aux_lemma =>
    go_wp2
    (try simp only [Exit.noGoto_ret])
    refine bodyPost_ret (results_tmp7 rfl _ _ _) rfl ⟨⟨_, rfl, rf_res (x := 0) (i := k) rfl b6 hm (by omega) (by omega) fun n d e hl => ?_⟩, rfl⟩
    exact absurd (hL2.out n d e hl) (by decide)
    --]]nodig
  clear hL2
  go_upto_if 142 with (fail)
  go_cut [17] (fun s17 w' => (∃ d : Int, s17 = .int .i64 d ∧ -(k : Int) ≤ d ∧ d ≤ k ∧ Hid (DcLit s ng m nm d und tr k)) ∧ w = w')
  case first =>
    --[[dot
    cases dot
    · as_aux_lemma =>
      go_wp2
      go_meet; case rel => exact ⟨⟨_, rfl, by omega, by omega, hL⟩, rfl⟩
    · as_aux_lemma =>
      go_wp2
      go_meet; case rel => exact ⟨⟨_, rfl, by omega, by omega, hL⟩, rfl⟩
    --]]dot
  case rest =>
  as_aux_lemma =>
  clear hL
  obtain ⟨⟨d, rfl, d1, d2, hL⟩, rfl⟩ := hcut
  go_upto_region 57 with (fail)
  go_cut [161] (fun s161 w' => (∃ b : Bool, s161 = .bool b ∧ (b = true → k < s.size) ∧ Hid (∀ ev, ExT ((bs s).drop k) ev → b = false → k = s.size ∧ ev = 0)) ∧ w = w')
  case first =>
    --[[hasexp
    by_cases hk : k < s.size
    · have hd := hide (bs_drop s k hk)
      as_aux_lemma =>
      go_wp2_with (first | (go_at_call 114; (with_reducible refine (lower_any _ _).mono ?_); rintro e w' ⟨rfl, rfl⟩))
      go_meet; case rel =>
      refine ⟨⟨_, rfl, fun _ => hk, hide fun ev he hf => ?_⟩, rfl⟩
      rw [hd.out] at he
      rw [(ext_head he).1] at hf
      exact absurd hf (by decide)
    · as_aux_lemma =>
      go_wp2
      go_meet; case rel =>
      refine ⟨⟨_, rfl, (fun h => by cases h), hide fun ev he _ => ?_⟩, rfl⟩
      rw [bs_drop_nil s k hk] at he
      cases he
      exact ⟨by omega, rfl⟩
    --]]hasexp
  case rest =>
  as_aux_lemma =>
  obtain ⟨⟨b, rfl, hb1, hb2⟩, rfl⟩ := hcut
  go_upto_if 161 with (fail)
  go_cut [7, 9, 17] (fun s7 s9 s17 w' => (∃ (k3 : Nat) (u : Bool) (d3 : Int), s7 = .int .i64 k3 ∧ s9 = .bool u ∧ s17 = .int .i64 d3 ∧ k3 ≤ s.size ∧ -2199023255552 ≤ d3 ∧ d3 ≤ 2199023255552 ∧ Hid (DcFin s ng m nm d3 u tr k3)) ∧ w = w')
  case first =>
    cases b
    · --[[noexp
      as_aux_lemma =>
      go_wp2
      go_meet; case rel =>
      refine ⟨⟨k, und, d, rfl, rfl, rfl, b6, by omega, by omega, hide fun n dd e hl => ?_⟩, rfl⟩
      obtain ⟨h1, ev, h2, h3, h4, h5, h6⟩ := hL.out n dd e hl
      obtain ⟨h7, rfl⟩ := hb2.out ev h2 (by trivial)
      exact ⟨h1, h7, h3, h4, h5, by omega⟩
      --]]noexp
    have hk := hb1 rfl
    clear hb1 hb2
    have hd := hide (bs_drop s k hk)
    go_upto_block 4 with (fail)
    · --[[cut1
      as_aux_lemma =>
      (try simp only [Exit.noGoto_ret])
      refine bodyPost_ret (results_tmp7 rfl _ _ _) rfl ⟨⟨_, rfl, rf_res (x := 0) (i := k + 1) rfl hk hm (by omega) (by omega) fun n dd e hl => ?_⟩, rfl⟩
      obtain ⟨h1, ev, h2, h3, h4, h5, h6⟩ := hL.out n dd e hl
      rw [hd.out] at h2
      exact absurd (bs_drop_nil s (k + 1) (by omega)) (ext_head h2).2
      --]]cut1
    have hk1 : k + 1 < s.size := by omega
    have hd2 := hide (bs_drop s (k + 1) hk1)
    go_cut [7, 19] (fun s7 s19 w' => (∃ (k2 : Nat) (es : Int), s7 = .int .i64 k2 ∧ s19 = .int .i64 es ∧ k2 ≤ s.size ∧ (es = 1 ∨ es = -1) ∧ Hid (∀ ev, ExT ((bs s).drop k) ev → DigEx ((bs s).drop k2) es ev)) ∧ w = w')
    case first =>
      --[[esign
      as_aux_lemma =>
      go_wp2
      · rename_i h
        go_meet; case rel =>
        refine ⟨⟨k + 2, 1, rfl, rfl, by omega, .inl rfl, hide fun ev he => ?_⟩, rfl⟩
        rw [hd.out, hd2.out] at he
        rcases ext_sign he with ⟨_, h2⟩ | ⟨h1, h2⟩
        · exact h2
        · rw [h1] at h; exact absurd h (by decide)
      · rename_i h
        go_meet; case rel =>
        refine ⟨⟨k + 2, -1, rfl, rfl, by omega, .inr rfl, hide fun ev he => ?_⟩, rfl⟩
        rw [hd.out, hd2.out] at he
        rcases ext_sign he with ⟨h1, h2⟩ | ⟨h1, h2⟩
        · rw [h1] at h; exact absurd h (by decide)
        · exact h2
      · rename_i h0 h
        go_meet; case rel =>
        refine ⟨⟨k + 1, 1, rfl, rfl, by omega, .inl rfl, hide fun ev he => ?_⟩, rfl⟩
        rw [hd.out, hd2.out] at he
        rcases ext_sign he with ⟨h1, h2⟩ | ⟨h1, h2⟩
        · rw [h1] at h0; exact absurd h0 (by decide)
        · rw [h1] at h; exact absurd h (by decide)
      --]]esign
    case rest =>
    as_aux_lemma =>
    obtain ⟨⟨k2, es, rfl, rfl, hk2, hes, hE⟩, rfl⟩ := hcut
    go_upto_region 67 with (fail)
    go_cut [194] (fun s194 w' => (∃ b : Bool, s194 = .bool b ∧ Hid (∀ ev, DigEx ((bs s).drop k2) es ev → b = false)) ∧ w = w')
    case first =>
      --[[edig
      by_cases hk3 : k2 < s.size
      · have hd3 := hide (bs_drop s k2 hk3)
        have hdg : ∀ ev, DigEx ((bs s).drop k2) es ev → isD s[k2] := fun ev he => he.1 _ (by rw [hd3.out]; simp)
        replace hdg := hide hdg
        as_aux_lemma =>
        go_wp2
        all_goals (
          go_meet; case rel =>
          refine ⟨⟨_, rfl, hide fun ev he => ?_⟩, rfl⟩
          have h2 := hdg.out ev he
          unfold isD at h2
          first
          | rfl
          | (exfalso; omega)
          | (simp; omega))
      · as_aux_lemma =>
        go_wp2
        go_meet; case rel =>
        refine ⟨⟨_, rfl, hide fun ev he => ?_⟩, rfl⟩
        exact absurd (bs_drop_nil s k2 hk3) he.2.1
      --]]edig
    case rest =>
    as_aux_lemma =>
    obtain ⟨⟨b, rfl, hB⟩, rfl⟩ := hcut
    cases b
    case true =>
      --[[eret
      as_aux_lemma =>
      go_wp2
      (try simp only [Exit.noGoto_ret])
      refine bodyPost_ret (results_tmp7 rfl _ _ _) rfl ⟨⟨_, rfl, rf_res (x := 0) (i := k2) rfl hk2 hm (by omega) (by omega) fun n dd e hl => ?_⟩, rfl⟩
      obtain ⟨h1, ev, h2, h3, h4, h5, h6⟩ := hL.out n dd e hl
      exact absurd (hB.out ev (hE.out ev h2)) (by decide)
      --]]eret
    clear hB
    go_upto_block 5 with (fail)
    go_cut [7, 9, 20] (fun s7 s9 s20 w' => (∃ (k3 : Nat) (u : Bool) (e : Nat), s7 = .int .i64 k3 ∧ s9 = .bool u ∧ s20 = .int .i64 e ∧ k3 ≤ s.size ∧ e ≤ 99999 ∧ Hid (exa ((bs s).drop k2) 0 und = (e, u, (bs s).drop k3))) ∧ w = w')
    case first =>
      --[[eloop
      as_aux_lemma =>
      go_wp2
      go_loop [7, 9, 20] (fun s7 s9 s20 => ∃ (k3 : Nat) (u : Bool) (e : Nat), s7 = .int .i64 k3 ∧ s9 = .bool u ∧ s20 = .int .i64 e ∧ k3 ≤ s.size ∧ e ≤ 99999 ∧ Hid (exa ((bs s).drop k3) e u = exa ((bs s).drop k2) 0 und)) (fun s7 _ _ => s.size - (intOf s7).toNat)
      case atStart => exact ⟨k2, und, 0, rfl, rfl, rfl, hk2, by omega, hide rfl⟩
      case round =>
        obtain ⟨k3, u, e, rfl, rfl, rfl, hk3, he, hz⟩ := hrel
        by_cases hlt : k3 < s.size
        · have hd3 := hide (bs_drop s k3 hlt)
          rcases exa_cases s[k3] ((bs s).drop (k3 + 1)) e u with ⟨c1, c2, hx⟩ | ⟨c1, hx⟩ | ⟨c1, c2, hx⟩
          all_goals have he2 := hide (hx.out.symm.trans ((congrArg (fun l => exa l e u) hd3.out).symm.trans hz.out))
          all_goals clear hx hz
          · by_cases h10 : e < 10000
            · as_aux_lemma =>
              go_wp2
              refine ⟨⟨k3 + 1, u, e * 10 + (s[k3].toNat - 48), rfl, rfl, vint (by omega), hlt, by omega, hide ?_⟩, by simp [intOf]; omega⟩
              have h2 := he2.out
              rw [if_pos h10] at h2
              exact h2
            · as_aux_lemma =>
              go_wp2
              refine ⟨⟨k3 + 1, u, e, rfl, rfl, rfl, hlt, he, hide ?_⟩, by simp [intOf]; omega⟩
              have h2 := he2.out
              rw [if_neg h10] at h2
              exact h2
          · as_aux_lemma =>
            go_wp2
            exact ⟨⟨k3 + 1, true, e, rfl, rfl, rfl, hlt, he, he2⟩, by simp [intOf]; omega⟩
          · rcases c2 with c2 | c2
            all_goals (as_aux_lemma =>
              go_wp2
              go_meet; case rel => exact ⟨⟨k3, u, e, rfl, rfl, rfl, hk3, he, hide (by rw [hd3.out]; exact he2.out.symm)⟩, rfl⟩)
        · as_aux_lemma =>
          go_wp2
          go_meet; case rel =>
          refine ⟨⟨k3, u, e, rfl, rfl, rfl, hk3, he, hide ?_⟩, rfl⟩
          rw [← hz.out, bs_drop_nil s k3 hlt]; rfl
      --]]eloop
    case rest =>
    as_aux_lemma =>
    --[[eadd
    obtain ⟨⟨k3, u, e, rfl, rfl, rfl, hk3, he, hz⟩, rfl⟩ := hcut
    have fin : ∀ d3 : Int, d3 = d + es * e → DcFin s ng m nm d3 u tr k3 := by
      intro d3 hd3 n dd ee hl
      obtain ⟨h1, ev, h2, h3, h4, h5, h6⟩ := hL.out n dd ee hl
      obtain ⟨g1, g2, g3, g4⟩ := hE.out ev h2
      have h7 := hz.out
      rw [exa_digits _ 0 und g1 g3] at h7
      injection h7 with h8 h9
      injection h9 with h9 h10
      refine ⟨h1, ?_, h3, by rw [← h9]; exact h4, h5, ?_⟩
      · have := congrArg List.length h10
        rw [List.length_drop, bs_len] at this
        simp at this
        omega
      · rw [← h8] at hd3
        omega
    replace fin := hide fin
    rcases hes with rfl | rfl
    · as_aux_lemma =>
      go_wp2
      go_meet; case rel => exact ⟨⟨k3, u, _, rfl, rfl, rfl, hk3, by omega, by omega, hide (fin.out _ (by omega))⟩, rfl⟩
    · as_aux_lemma =>
      go_wp2
      go_meet; case rel => exact ⟨⟨k3, u, _, rfl, rfl, rfl, hk3, by omega, by omega, hide (fin.out _ (by omega))⟩, rfl⟩
    --]]eadd
  case rest =>
  as_aux_lemma =>
  clear hb1 hb2 hL
  obtain ⟨⟨k3, u, d3, rfl, rfl, rfl, hk3, hd1, hd2, hF⟩, rfl⟩ := hcut
  go_upto_if 241 with (fail)
  go_cut [3] (fun s3 w' => (∃ x : Int, s3 = .int .i64 x ∧ -4398046511104 ≤ x ∧ x ≤ 4398046511104 ∧ Hid (m ≠ 0 → x = d3 - nm)) ∧ w = w')
  case first =>
    --[[exp
    by_cases hm0 : m = 0
    · as_aux_lemma =>
      subst hm0
      go_wp2
      go_meet; case rel => exact ⟨⟨_, rfl, by omega, by omega, hide fun h => absurd rfl h⟩, rfl⟩
    · as_aux_lemma =>
      go_wp2
      go_meet; case rel => exact ⟨⟨_, rfl, by omega, by omega, hide fun _ => rfl⟩, rfl⟩
    --]]exp
  case rest =>
  as_aux_lemma =>
  obtain ⟨⟨x, rfl, hx1, hx2, hX⟩, rfl⟩ := hcut
  go_upto_region 79 with (fail)
  go_cut [252] (fun s252 w' => (∃ b : Bool, s252 = .bool b ∧ (u = false → b = false)) ∧ w = w')
  case first =>
    --[[under
    cases u
    · as_aux_lemma =>
      go_wp2
      go_meet; case rel => exact ⟨⟨_, rfl, fun _ => rfl⟩, rfl⟩
    · as_aux_lemma =>
      go_wp2_with (first | (go_at_call 155; (refine (under_any _ _ ?_).mono ?_); (· rw [extract_size _ _ _ hk3]; omega); rintro e w' ⟨⟨v, rfl, b, rfl⟩, rfl⟩))
      go_meet; case rel => exact ⟨⟨_, rfl, fun h => by cases h⟩, rfl⟩
    --]]under
  case rest =>
  as_aux_lemma =>
  --[[final
  obtain ⟨⟨b, rfl, hb⟩, rfl⟩ := hcut
  cases b
  · as_aux_lemma =>
    go_wp2
    (try simp only [Exit.noGoto_ret])
    refine bodyPost_ret (results_tmp7 rfl _ _ _) rfl ⟨⟨_, rfl, rf_res (x := x) (i := k3) rfl hk3 hm (by omega) (by omega) fun n dd e hl => ?_⟩, rfl⟩
    obtain ⟨h1, h2, h3, h4, h5, h6⟩ := hF.out n dd e hl
    exact ⟨rfl, h5, h2, h3, h1.symm, fun h => by rw [h6]; exact hX.out (by rw [h3]; exact h)⟩
  · as_aux_lemma =>
    go_wp2
    (try simp only [Exit.noGoto_ret])
    refine bodyPost_ret (results_tmp7 rfl _ _ _) rfl ⟨⟨_, rfl, rf_res (x := x) (i := k3) rfl hk3 hm (by omega) (by omega) fun n dd e hl => ?_⟩, rfl⟩
    obtain ⟨h1, h2, h3, h4, h5, h6⟩ := hF.out n dd e hl
    exact absurd (hb h4) (by decide)
  --]]final
end Go.Proofs.YtgmbjdoifkjdhaaGreatDoor
