/- readFloat, of a hexadecimal text. -/
import Derived.Test.YtgmbjdoifkjdhaaGreatDoorKv
namespace Go.Proofs.YtgmbjdoifkjdhaaGreatDoor
open Go.RowKit

theorem hx_res {s : ByteArray} {v : Value} {m : Nat} {x : Int} {neg tr : Bool} {i : Nat} {ok : Bool} (hv : v = .tuple #[.int .u64 m, .int .i64 x, .bool neg, .bool tr, .bool true, .int .i64 i, .bool ok]) (hi : i ≤ s.size) (hm : m < 18446744073709551616) (h0 : -1125899906842624 ≤ x) (h1 : x ≤ 1125899906842624)
    (hl : ∀ n d e, ¬ Lit (bs s) n d e) : RfRes s v :=
  ⟨m, x, neg, tr, true, i, ok, hv, hi, by omega, (fun h => by cases h), h0, h1, fun n d e h => (hl n d e h).elim⟩
theorem room64 {m nm : Nat} (hm : m < 16 ^ nm) (hn : nm ≤ 16) : m < 18446744073709551616 := by
  have : 16 ^ nm ≤ 16 ^ 16 := Nat.pow_le_pow_right (by decide) (by omega)
  exact Nat.lt_of_lt_of_le hm this
theorem low_let : ((List.range 256).all fun n => decide (lowB (UInt8.ofNat n) < 97) || decide (57 < n)) = true := by kernel_rfl
theorem low_big {c : UInt8} (h : 97 ≤ lowB c) : 57 < (c.toNat : Int) := by
  have h1 := List.all_eq_true.mp low_let c.toNat (List.mem_range.mpr c.toNat_lt)
  simp only [UInt8.ofNat_toNat, Bool.or_eq_true, decide_eq_true_eq] at h1
  omega
def HxSt (m nd nm : Nat) (dp : Int) (k n : Nat) : Prop := nd ≤ k ∧ nm ≤ 16 ∧ -(k : Int) ≤ dp ∧ dp ≤ k ∧ m < 16 ^ nm ∧ k ≤ n
theorem exa_ways (c : Int) : (48 ≤ c ∧ c ≤ 57) ∨ c = 95 ∨ (¬ c = 95 ∧ (¬ 48 ≤ c ∨ ¬ c ≤ 57)) := by omega
/-- The ways of a byte through the scan. -/
theorem hx_cases (c : Int) (nd : Nat) (dot : Bool) (l : Int) (hl : 97 ≤ l → 57 < c) :
    c = 95 ∨ (c = 46 ∧ dot = true) ∨ (c = 46 ∧ dot = false) ∨ (c = 48 ∧ nd = 0) ∨ (c = 48 ∧ 0 < nd) ∨ (48 < c ∧ c ≤ 57) ∨
    (57 < c ∧ ¬ c = 95 ∧ 97 ≤ l ∧ l ≤ 102) ∨ (57 < c ∧ ¬ c = 95 ∧ ¬ (97 ≤ l)) ∨ (57 < c ∧ ¬ c = 95 ∧ 97 ≤ l ∧ ¬ l ≤ 102) ∨ (c < 48 ∧ ¬ c = 46 ∧ ¬ 97 ≤ l) := by
  cases dot <;> simp <;> omega

set_option maxRecDepth 100000 in
set_option maxHeartbeats 16000000 in
theorem rf_hex (s : ByteArray) (w : World) (hs : s.size ≤ 1099511627776) (hxy : Hexy s) :
    Calls Tryz.prog 134 #[.string s] w fun e w' => (∃ v, e = .returned v ∧ RfRes s v) ∧ w = w' := by
  have h0 : 0 < s.size := by obtain ⟨h1, _⟩ := hxy; omega
  replace hxy := hide hxy
  go_enter Tryz.func134, Tryz.ntmps134
  go_wp2
  refine wp_scope_straight ?_
  go_upto_block 0 with (fail)
  · rename_i he
    subst he
    exact absurd h0 (by decide)
  rename_i he
  go_cut [4, 7] (fun s4 s7 w' => (∃ (ng : Bool) (k : Nat), s4 = .bool ng ∧ s7 = .int .i64 k ∧ k ≤ s.size ∧ Hid (Rf1 s ng k)) ∧ w = w')
  case first =>
    --[[sign
    as_aux_lemma =>
    go_wp2
    · rename_i h
      go_meet; case rel => exact ⟨⟨false, 1, rfl, rfl, by omega, hide (rf1_plus h0 (by simpa using h))⟩, rfl⟩
    · rename_i h1 h
      go_meet; case rel => exact ⟨⟨true, 1, rfl, rfl, by omega, hide (rf1_minus h0 (by simpa using h))⟩, rfl⟩
    · rename_i h1 h
      go_meet; case rel => exact ⟨⟨false, 0, rfl, rfl, by omega, hide (rf1_none h0 (by simpa using h1) (by simpa using h))⟩, rfl⟩
    --]]sign
  case rest =>
  as_aux_lemma =>
  obtain ⟨⟨ng, k0, rfl, rfl, hk0, H1⟩, rfl⟩ := hcut
  have hno := hide (hexy_lit hxy.out H1.out)
  have hkey : k0 + 2 < s.size ∧ ∀ (h1 : k0 < s.size) (h2 : k0 + 1 < s.size), (s[k0].toNat : Int) = 48 ∧ lowB s[k0 + 1] = 120 := by
    have hk := H1.out.1
    subst hk
    obtain ⟨h1, h2, h3, h4, h5⟩ := hxy.out
    exact ⟨h3, fun _ _ => ⟨h4, h5⟩⟩
  clear H1 hxy
  obtain ⟨hk2, hkey⟩ := hkey
  obtain ⟨h48, h120⟩ := hkey (by omega) (by omega)
  clear hkey
  go_upto_region 12 with (fail)
  go_cut [54] (fun s54 w' => s54 = .bool true ∧ w = w')
  case first =>
    --[[hex
    as_aux_lemma =>
    have hlb : (lowB s[k0 + 1] == 120) = true := by simp [h120]
    have h1 : k0 < s.size := by omega
    have h2 : k0 + 1 < s.size := by omega
    go_wp2_with (first | (go_at_call 114; (with_reducible refine (lower_any _ _).mono ?_); rintro e w' ⟨rfl, rfl⟩))
    go_meet; case rel => exact ⟨rfl, rfl⟩
    --]]hex
  case rest =>
  as_aux_lemma =>
  obtain ⟨rfl, rfl⟩ := hcut
  clear h48 h120
  go_upto_block 1 with (fail)
  refine wp_label ?_
  go_upto_block 1 with (fail)
  go_cut [2, 5, 7, 9, 13, 14, 15, 16, 17] (fun s2 s5 s7 s9 s13 s14 s15 s16 s17 w' => (∃ (m nd nm : Nat) (dp : Int) (dot dig und tr : Bool) (k : Nat), s2 = .int .u64 m ∧ s5 = .bool tr ∧ s7 = .int .i64 k ∧ s9 = .bool und ∧ s13 = .bool dot ∧ s14 = .bool dig ∧ s15 = .int .i64 nd ∧ s16 = .int .i64 nm ∧ s17 = .int .i64 dp ∧ Hid (HxSt m nd nm dp k s.size)) ∧ w = w')
  case first =>
    --[[loop
    as_aux_lemma =>
    go_wp2
    go_loop [2, 5, 7, 9, 13, 14, 15, 16, 17] (fun s2 s5 s7 s9 s13 s14 s15 s16 s17 => ∃ (m nd nm : Nat) (dp : Int) (dot dig und tr : Bool) (k : Nat), s2 = .int .u64 m ∧ s5 = .bool tr ∧ s7 = .int .i64 k ∧ s9 = .bool und ∧ s13 = .bool dot ∧ s14 = .bool dig ∧ s15 = .int .i64 nd ∧ s16 = .int .i64 nm ∧ s17 = .int .i64 dp ∧ Hid (HxSt m nd nm dp k s.size)) (fun _ _ s7 _ _ _ _ _ _ => s.size - (intOf s7).toNat)
    case atStart => exact ⟨0, 0, 0, 0, _, _, _, _, k0 + 2, rfl, rfl, rfl, rfl, rfl, rfl, rfl, rfl, rfl, hide ⟨by omega, by omega, by omega, by omega, by simp, by omega⟩⟩
    case round =>
      obtain ⟨m, nd, nm, dp, dot, dig, und, tr, k, rfl, rfl, rfl, rfl, rfl, rfl, rfl, rfl, rfl, H⟩ := hrel
      obtain ⟨b1, b2, b3, b4, b5, b6⟩ := H.out
      clear H
      replace b5 := hide b5
      by_cases hlt : k < s.size
      case neg =>
        as_aux_lemma =>
        go_wp2
        go_meet; case rel =>
        exact ⟨⟨m, nd, nm, dp, dot, dig, und, tr, k, rfl, rfl, rfl, rfl, rfl, rfl, rfl, rfl, rfl, hide ⟨b1, b2, b3, b4, b5.out, b6⟩⟩, rfl⟩
      have hlo := lowB_lt s[k]
      rcases hx_cases (s[k].toNat : Int) nd dot (lowB s[k]) low_big with c1 | ⟨c1, rfl⟩ | ⟨c1, rfl⟩ | ⟨c1, rfl⟩ | ⟨c1, c2⟩ | ⟨c1, c2⟩ | ⟨c0, c1, c2, c3⟩ | ⟨c0, c1, c2⟩ | ⟨c0, c1, c2, c3⟩ | ⟨c0, c1, c2⟩
      · as_aux_lemma =>
        go_wp2
        exact ⟨⟨m, nd, nm, dp, dot, dig, true, tr, k + 1, rfl, rfl, rfl, rfl, rfl, rfl, rfl, rfl, rfl, hide ⟨by omega, b2, by omega, by omega, b5.out, hlt⟩⟩, by simp [intOf]; omega⟩
      · as_aux_lemma =>
        go_wp2
        go_meet; case rel =>
        exact ⟨⟨m, nd, nm, dp, true, dig, und, tr, k, rfl, rfl, rfl, rfl, rfl, rfl, rfl, rfl, rfl, hide ⟨b1, b2, b3, b4, b5.out, b6⟩⟩, rfl⟩
      · as_aux_lemma =>
        go_wp2
        exact ⟨⟨m, nd, nm, nd, true, dig, und, tr, k + 1, rfl, rfl, rfl, rfl, rfl, rfl, rfl, rfl, rfl, hide ⟨by omega, b2, by omega, by omega, b5.out, hlt⟩⟩, by simp [intOf]; omega⟩
      · as_aux_lemma =>
        go_wp2
        exact ⟨⟨m, 0, nm, dp - 1, dot, true, und, tr, k + 1, rfl, rfl, rfl, rfl, rfl, rfl, rfl, rfl, rfl, hide ⟨by omega, b2, by omega, by omega, b5.out, hlt⟩⟩, by simp [intOf]; omega⟩
      · by_cases hnm : nm < 16
        · as_aux_lemma =>
          have hm := room16 b5.out hnm
          go_wp2
          exact ⟨⟨m * 16, nd + 1, nm + 1, dp, dot, true, und, tr, k + 1, vint (by omega), rfl, rfl, rfl, rfl, rfl, rfl, rfl, rfl, hide ⟨by omega, hnm, by omega, by omega, pow_step (d := 0) b5.out (by omega), hlt⟩⟩, by simp [intOf]; omega⟩
        · as_aux_lemma =>
          go_wp2
          exact ⟨⟨m, nd + 1, nm, dp, dot, true, und, tr, k + 1, rfl, rfl, rfl, rfl, rfl, rfl, rfl, rfl, rfl, hide ⟨by omega, b2, by omega, by omega, b5.out, hlt⟩⟩, by simp [intOf]; omega⟩
      · by_cases hnm : nm < 16
        · as_aux_lemma =>
          have hm := room16 b5.out hnm
          go_wp2
          exact ⟨⟨m * 16 + (s[k].toNat - 48), nd + 1, nm + 1, dp, dot, true, und, tr, k + 1, vint (by omega), rfl, rfl, rfl, rfl, rfl, rfl, rfl, rfl, hide ⟨by omega, hnm, by omega, by omega, pow_step b5.out (by omega), hlt⟩⟩, by simp [intOf]; omega⟩
        · as_aux_lemma =>
          go_wp2
          exact ⟨⟨m, nd + 1, nm, dp, dot, true, und, true, k + 1, rfl, rfl, rfl, rfl, rfl, rfl, rfl, rfl, rfl, hide ⟨by omega, b2, by omega, by omega, b5.out, hlt⟩⟩, by simp [intOf]; omega⟩
      · by_cases hnm : nm < 16
        · as_aux_lemma =>
          have hm := room16 b5.out hnm
          go_wp2_with (first | (go_at_call 114; (with_reducible refine (lower_any _ _).mono ?_); rintro e w' ⟨rfl, rfl⟩))
          exact ⟨⟨m * 16 + (lowB s[k] - 87).toNat, nd + 1, nm + 1, dp, dot, true, und, tr, k + 1, vint (by omega), rfl, rfl, rfl, rfl, rfl, rfl, rfl, rfl, hide ⟨by omega, hnm, by omega, by omega, pow_step b5.out (by omega), hlt⟩⟩, by simp [intOf]; omega⟩
        · as_aux_lemma =>
          go_wp2_with (first | (go_at_call 114; (with_reducible refine (lower_any _ _).mono ?_); rintro e w' ⟨rfl, rfl⟩))
          exact ⟨⟨m, nd + 1, nm, dp, dot, true, und, true, k + 1, rfl, rfl, rfl, rfl, rfl, rfl, rfl, rfl, rfl, hide ⟨by omega, b2, by omega, by omega, b5.out, hlt⟩⟩, by simp [intOf]; omega⟩
      all_goals (as_aux_lemma =>
        go_wp2_with (first | (go_at_call 114; (with_reducible refine (lower_any _ _).mono ?_); rintro e w' ⟨rfl, rfl⟩))
        go_meet; case rel =>
        exact ⟨⟨m, nd, nm, dp, dot, dig, und, tr, k, rfl, rfl, rfl, rfl, rfl, rfl, rfl, rfl, rfl, hide ⟨b1, b2, b3, b4, b5.out, b6⟩⟩, rfl⟩)
    --]]loop
  case rest =>
  as_aux_lemma =>
  obtain ⟨⟨m, nd, nm, dp, dot, dig, und, tr, k, rfl, rfl, rfl, rfl, rfl, rfl, rfl, rfl, rfl, H⟩, rfl⟩ := hcut
  obtain ⟨b1, b2, b3, b4, b5, b6⟩ := H.out
  clear H
  have hm := hide (room64 b5 b2)
  clear b5
  cases dig
  · --[[nodig
    as_aux_lemma =>
    go_wp2
    (try simp only [Exit.noGoto_ret])
    exact bodyPost_ret (results_tmp7 rfl _ _ _) rfl ⟨⟨_, rfl, hx_res (x := 0) (i := k) rfl b6 hm.out (by omega) (by omega) hno.out⟩, rfl⟩
    --]]nodig
  go_upto_if 142 with (fail)
  go_cut [17] (fun s17 w' => (∃ d : Int, s17 = .int .i64 d ∧ -(k : Int) ≤ d ∧ d ≤ k) ∧ w = w')
  case first =>
    --[[dot
    cases dot
    · as_aux_lemma =>
      go_wp2
      go_meet; case rel => exact ⟨⟨_, rfl, by omega, by omega⟩, rfl⟩
    · as_aux_lemma =>
      go_wp2
      go_meet; case rel => exact ⟨⟨_, rfl, by omega, by omega⟩, rfl⟩
    --]]dot
  case rest =>
  as_aux_lemma =>
  obtain ⟨⟨d, rfl, d1, d2⟩, rfl⟩ := hcut
  go_upto_region 57 with (fail)
  go_cut [161] (fun s161 w' => (∃ b : Bool, s161 = .bool b ∧ (b = true → k < s.size)) ∧ w = w')
  case first =>
    --[[hasexp
    by_cases hk : k < s.size
    · as_aux_lemma =>
      go_wp2_with (first | (go_at_call 114; (with_reducible refine (lower_any _ _).mono ?_); rintro e w' ⟨rfl, rfl⟩))
      go_meet; case rel => exact ⟨⟨_, rfl, fun _ => hk⟩, rfl⟩
    · as_aux_lemma =>
      go_wp2
      go_meet; case rel => exact ⟨⟨_, rfl, (fun h => by cases h)⟩, rfl⟩
    --]]hasexp
  case rest =>
  as_aux_lemma =>
  obtain ⟨⟨b, rfl, hb1⟩, rfl⟩ := hcut
  go_upto_if 161 with (fail)
  go_cut [7, 9, 17] (fun s7 s9 s17 w' => (∃ (k3 : Nat) (u : Bool) (d3 : Int), s7 = .int .i64 k3 ∧ s9 = .bool u ∧ s17 = .int .i64 d3 ∧ k3 ≤ s.size ∧ -8796093022208 ≤ d3 ∧ d3 ≤ 8796093022208) ∧ w = w')
  case first =>
    cases b
    · --[[noexp
      as_aux_lemma =>
      go_wp2
      (try simp only [Exit.noGoto_ret])
      exact bodyPost_ret (results_tmp7 rfl _ _ _) rfl ⟨⟨_, rfl, hx_res (x := 0) (i := k) rfl b6 hm.out (by omega) (by omega) hno.out⟩, rfl⟩
      --]]noexp
    have hk := hb1 rfl
    clear hb1
    go_upto_block 4 with (fail)
    · --[[cut1
      as_aux_lemma =>
      (try simp only [Exit.noGoto_ret])
      exact bodyPost_ret (results_tmp7 rfl _ _ _) rfl ⟨⟨_, rfl, hx_res (x := 0) (i := k + 1) rfl hk hm.out (by omega) (by omega) hno.out⟩, rfl⟩
      --]]cut1
    have hk1 : k + 1 < s.size := by omega
    go_cut [7, 19] (fun s7 s19 w' => (∃ (k2 : Nat) (es : Int), s7 = .int .i64 k2 ∧ s19 = .int .i64 es ∧ k2 ≤ s.size ∧ (es = 1 ∨ es = -1)) ∧ w = w')
    case first =>
      --[[esign
      as_aux_lemma =>
      go_wp2
      · go_meet; case rel => exact ⟨⟨k + 2, 1, rfl, rfl, by omega, .inl rfl⟩, rfl⟩
      · go_meet; case rel => exact ⟨⟨k + 2, -1, rfl, rfl, by omega, .inr rfl⟩, rfl⟩
      · go_meet; case rel => exact ⟨⟨k + 1, 1, rfl, rfl, by omega, .inl rfl⟩, rfl⟩
      --]]esign
    case rest =>
    as_aux_lemma =>
    obtain ⟨⟨k2, es, rfl, rfl, hk2', hes⟩, rfl⟩ := hcut
    go_upto_region 67 with (fail)
    go_cut [194] (fun s194 w' => (∃ b : Bool, s194 = .bool b) ∧ w = w')
    case first =>
      --[[edig
      by_cases hk3 : k2 < s.size
      · as_aux_lemma =>
        go_wp2
        all_goals (go_meet; case rel => exact ⟨⟨_, rfl⟩, rfl⟩)
      · as_aux_lemma =>
        go_wp2
        go_meet; case rel => exact ⟨⟨_, rfl⟩, rfl⟩
      --]]edig
    case rest =>
    as_aux_lemma =>
    obtain ⟨⟨b, rfl⟩, rfl⟩ := hcut
    cases b
    case true =>
      --[[eret
      as_aux_lemma =>
      go_wp2
      (try simp only [Exit.noGoto_ret])
      exact bodyPost_ret (results_tmp7 rfl _ _ _) rfl ⟨⟨_, rfl, hx_res (x := 0) (i := k2) rfl hk2' hm.out (by omega) (by omega) hno.out⟩, rfl⟩
      --]]eret
    go_upto_block 5 with (fail)
    go_cut [7, 9, 20] (fun s7 s9 s20 w' => (∃ (k3 : Nat) (u : Bool) (e : Nat), s7 = .int .i64 k3 ∧ s9 = .bool u ∧ s20 = .int .i64 e ∧ k3 ≤ s.size ∧ e ≤ 99999) ∧ w = w')
    case first =>
      --[[eloop
      as_aux_lemma =>
      go_wp2
      go_loop [7, 9, 20] (fun s7 s9 s20 => ∃ (k3 : Nat) (u : Bool) (e : Nat), s7 = .int .i64 k3 ∧ s9 = .bool u ∧ s20 = .int .i64 e ∧ k3 ≤ s.size ∧ e ≤ 99999) (fun s7 _ _ => s.size - (intOf s7).toNat)
      case atStart => exact ⟨k2, und, 0, rfl, rfl, rfl, hk2', by omega⟩
      case round =>
        obtain ⟨k3, u, e, rfl, rfl, rfl, hk3, he⟩ := hrel
        by_cases hlt : k3 < s.size
        · rcases exa_ways (s[k3].toNat : Int) with ⟨c1, c2⟩ | c1 | ⟨c1, c2⟩
          · by_cases h10 : e < 10000
            · as_aux_lemma =>
              go_wp2
              exact ⟨⟨k3 + 1, u, e * 10 + (s[k3].toNat - 48), rfl, rfl, vint (by omega), hlt, by omega⟩, by simp [intOf]; omega⟩
            · as_aux_lemma =>
              go_wp2
              exact ⟨⟨k3 + 1, u, e, rfl, rfl, rfl, hlt, he⟩, by simp [intOf]; omega⟩
          · as_aux_lemma =>
            go_wp2
            exact ⟨⟨k3 + 1, true, e, rfl, rfl, rfl, hlt, he⟩, by simp [intOf]; omega⟩
          · rcases c2 with c2 | c2
            all_goals (as_aux_lemma =>
              go_wp2
              go_meet; case rel => exact ⟨⟨k3, u, e, rfl, rfl, rfl, hk3, he⟩, rfl⟩)
        · as_aux_lemma =>
          go_wp2
          go_meet; case rel =>
          exact ⟨⟨k3, u, e, rfl, rfl, rfl, hk3, he⟩, rfl⟩
      --]]eloop
    case rest =>
    as_aux_lemma =>
    --[[eadd
    obtain ⟨⟨k3, u, e, rfl, rfl, rfl, hk3, he⟩, rfl⟩ := hcut
    rcases hes with rfl | rfl
    · as_aux_lemma =>
      go_wp2
      go_meet; case rel => exact ⟨⟨k3, u, _, rfl, rfl, rfl, hk3, by omega, by omega⟩, rfl⟩
    · as_aux_lemma =>
      go_wp2
      go_meet; case rel => exact ⟨⟨k3, u, _, rfl, rfl, rfl, hk3, by omega, by omega⟩, rfl⟩
    --]]eadd
  case rest =>
  as_aux_lemma =>
  clear hb1
  obtain ⟨⟨k3, u, d3, rfl, rfl, rfl, hk3, hd1, hd2⟩, rfl⟩ := hcut
  go_upto_if 241 with (fail)
  go_cut [3] (fun s3 w' => (∃ x : Int, s3 = .int .i64 x ∧ -17592186044416 ≤ x ∧ x ≤ 17592186044416) ∧ w = w')
  case first =>
    --[[exp
    by_cases hm0 : m = 0
    · as_aux_lemma =>
      subst hm0
      go_wp2
      go_meet; case rel => exact ⟨⟨_, rfl, by omega, by omega⟩, rfl⟩
    · as_aux_lemma =>
      go_wp2
      go_meet; case rel => exact ⟨⟨_, rfl, by omega, by omega⟩, rfl⟩
    --]]exp
  case rest =>
  as_aux_lemma =>
  obtain ⟨⟨x, rfl, hx1, hx2⟩, rfl⟩ := hcut
  go_upto_region 79 with (fail)
  go_cut [252] (fun s252 w' => (∃ b : Bool, s252 = .bool b) ∧ w = w')
  case first =>
    --[[under
    cases u
    · as_aux_lemma =>
      go_wp2
      go_meet; case rel => exact ⟨⟨_, rfl⟩, rfl⟩
    · as_aux_lemma =>
      go_wp2_with (first | (go_at_call 155; (refine (under_any _ _ ?_).mono ?_); (· rw [extract_size _ _ _ hk3]; omega); rintro e w' ⟨⟨v, rfl, b, rfl⟩, rfl⟩))
      go_meet; case rel => exact ⟨⟨_, rfl⟩, rfl⟩
    --]]under
  case rest =>
  as_aux_lemma =>
  --[[final
  obtain ⟨⟨b, rfl⟩, rfl⟩ := hcut
  cases b
  all_goals (as_aux_lemma =>
    go_wp2
    (try simp only [Exit.noGoto_ret])
    exact bodyPost_ret (results_tmp7 rfl _ _ _) rfl ⟨⟨_, rfl, hx_res (x := x) (i := k3) rfl hk3 hm.out (by omega) (by omega) hno.out⟩, rfl⟩)
  --]]final
end Go.Proofs.YtgmbjdoifkjdhaaGreatDoor
