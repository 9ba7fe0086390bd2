/- atof64: every text is answered; a number's text by the number. strconv.ParseFloat: numbers are read. -/
import Derived.Test.YtgmbjdoifkjdhaaGreatDoorKz
import Derived.Test.YtgmbjdoifkjdhaaGreatDoorKu
import Derived.Test.YtgmbjdoifkjdhaaGreatDoorNa
import Derived.Test.YtgmbjdoifkjdhaaGreatDoorNb
import Derived.Test.YtgmbjdoifkjdhaaGreatDoorKb
section
namespace Go.Proofs.YtgmbjdoifkjdhaaGreatDoor
open Go.RowKit

theorem rf_any (s : ByteArray) (w : World) (hs : s.size ≤ 1099511627776) : Calls Tryz.prog 134 #[.string s] w fun e w' => (∃ v, e = .returned v ∧ RfRes s v) ∧ w = w' := by
  by_cases h : Hexy s
  · exact rf_hex s w hs h
  · exact rf_dec s w hs h
/-- An error's value, or none. -/
def AtErr (y : Value) : Prop := y = .iface 150 (.int .i64 1) ∨ y = .iface 150 (.int .i64 2)
def AtRes (s : ByteArray) (v : Value) : Prop :=
  ∃ (x n : Nat) (y : Value), v = .tuple #[.float .f64 x, .int .i64 n, y] ∧ ((y = .nilIface ∧ Fl.Good x) ∨ AtErr y) ∧ ∀ b, NumT (bs s) b → y = .nilIface ∧ n = s.size ∧ x = b
theorem at_good {s : ByteArray} {v : Value} {x n : Nat} (hv : v = .tuple #[.float .f64 x, .int .i64 n, .nilIface]) (hx : Fl.Good x) (h : ∀ b, NumT (bs s) b → n = s.size ∧ x = b) : AtRes s v :=
  ⟨x, n, _, hv, .inl ⟨rfl, hx⟩, fun b hb => ⟨rfl, h b hb⟩⟩
theorem at_err {s : ByteArray} {v : Value} {x n : Nat} {c : Int} (hv : v = .tuple #[.float .f64 x, .int .i64 n, .iface 150 (.int .i64 c)]) (hc : c = 1 ∨ c = 2) (h : ∀ b, ¬ NumT (bs s) b) : AtRes s v :=
  ⟨x, n, _, hv, .inr (by rcases hc with rfl | rfl; exact .inl rfl; exact .inr rfl), fun b hb => absurd hb (h b)⟩
/-- What special answers where it takes the text. -/
theorem at_special {s : ByteArray} {x : Nat} {n : Int} (h : SpOut s x n true) : AtRes s (.tuple #[.float .f64 x, .int .i64 n, .nilIface]) := by
  obtain ⟨k, rfl⟩ : ∃ k : Nat, n = k := ⟨n.toNat, by have := h.ge; omega⟩
  refine at_good rfl h.good fun b hb => ?_
  rcases hb with ⟨h1, rfl⟩ | ⟨h1, rfl⟩ | ⟨h1, rfl⟩ | ⟨neg, m, e, hl, _⟩
  · obtain ⟨h2, h3, _⟩ := h.nan h1
    have := congrArg List.length h1
    rw [bs_len] at this
    exact ⟨by simp at this; omega, h2⟩
  · obtain ⟨h2, h3, _⟩ := h.inf h1
    have := congrArg List.length h1
    rw [bs_len] at this
    exact ⟨by simp at this; omega, h2⟩
  · obtain ⟨h2, h3, _⟩ := h.ninf h1
    have := congrArg List.length h1
    rw [bs_len] at this
    exact ⟨by simp at this; omega, h2⟩
  · have := h.lit neg m e hl; cases this
/-- Where special does not, only a literal is left. -/
theorem num_lit {s : ByteArray} {x : Nat} {n : Int} (h : SpOut s x n false) {b : Nat} (hb : NumT (bs s) b) : ∃ neg m e, Lit (bs s) neg m e ∧ Val neg m e b := by
  rcases hb with ⟨h1, rfl⟩ | ⟨h1, rfl⟩ | ⟨h1, rfl⟩ | hl
  · have := (h.nan h1).2.2; cases this
  · have := (h.inf h1).2.2; cases this
  · have := (h.ninf h1).2.2; cases this
  · exact hl
/-- What a number's text says of what readFloat answers. -/
theorem lit_use {s : ByteArray} {x m i : Nat} {n x2 : Int} {neg tr hex ok : Bool} {b : Nat} (hsp : SpOut s x n false) (hrf : RfOut s m x2 neg tr hex i ok) (hb : NumT (bs s) b) :
    ok = true ∧ hex = false ∧ tr = false ∧ i = s.size ∧ ((m = 0 ∧ b = Fl.wordOf neg 0) ∨ (0 < m ∧ m < 144115188075855872 ∧ -345 ≤ x2 ∧ x2 ≤ 310 ∧ ∃ M k : Nat, 0 < M ∧ M < 9007199254740992 ∧ (k = 0 ∨ 4503599627370496 ≤ M) ∧ k < 2046 ∧
      Fl.Near (m * 10 ^ x2.toNat * 2 ^ 1076) (10 ^ (-x2).toNat * 2 ^ k) M (0 < k) ∧ b = Fl.wordOf neg (k * 4503599627370496 + M))) := by
  obtain ⟨ng, d, e, hl, hv⟩ := num_lit hsp hb
  obtain ⟨h1, h2, h3, h4, h5, h6, h7⟩ := hrf.lit _ _ _ hl
  refine ⟨h1, h2, h3, h4, ?_⟩
  subst h5
  subst h6
  have hm : m < 144115188075855872 := by
    obtain ⟨_, _, _, _, _, _, _, _, _, _, _, _, _, hm, _⟩ := hl
    exact hm
  rcases hv with hv | ⟨h8, h9⟩
  · exact .inl hv
  · have := h7 (by omega)
    subst this
    exact .inr ⟨h8, hm, h9⟩
set_option maxRecDepth 100000 in
theorem zero179 : Tryz.zeroCells179 = (List.replicate 800 (.int .u8 0) ++ [.int .i64 0, .int .i64 0, .bool false, .bool false] : List Value).toArray := by kernel_rfl
theorem rep_facts {z : Array Value} {v a b c d : Value} (n : Nat) (h : z = (List.replicate n v ++ [a, b, c, d] : List Value).toArray) :
    z.size = n + 4 ∧ (∀ i, i < n → z[i]? = some v) ∧ z[n]? = some a ∧ z[n + 1]? = some b ∧ z[n + 2]? = some c ∧ z[n + 3]? = some d := by
  subst h
  refine ⟨by simp, fun i hi => ?_, ?_, ?_, ?_, ?_⟩
  · rw [List.getElem?_toArray, List.getElem?_append_left (by simpa using hi), List.getElem?_replicate, if_pos hi]
  all_goals (rw [List.getElem?_toArray, List.getElem?_append_right (by simp)]; simp)
theorem dc_new (w : World) : Dc (w.alloc (.cells Tryz.zeroCells179 179)) w.heap.size (fun _ => 0) 0 0 := by
  obtain ⟨h1, h2, h3, h4, h5, h6⟩ := rep_facts 800 zero179
  exact ⟨_, Blk.new w 179 _, h1, h2, h3, h4, ⟨false, h5⟩, ⟨false, h6⟩⟩
def sgb (neg : Bool) : Int := if neg then 1 else 0
theorem bool2_neg (neg : Bool) (w : World) : Calls Tryz.prog 142 #[.bool neg] w fun e w' => e = .returned (.int .u64 (sgb neg)) ∧ w = w' := bool2u_any neg w
theorem sign_shl (neg : Bool) : IntKind.u64.wrap (sgb neg * 9223372036854775808) = ((signed neg 0 : Nat) : Int) := by cases neg <;> rfl
theorem signed_zero (neg : Bool) : signed neg 0 = Fl.wordOf neg 0 := rfl
theorem signed_cut (neg : Bool) : signed neg 0 < 18446744073709551616 := signed_lt neg (by omega)
theorem good_szero (neg : Bool) : Fl.Good (Fl.wordOf neg 0) := Fl.good_word neg (by omega)
set_option maxRecDepth 100000 in
set_option maxHeartbeats 8000000 in
theorem atof_any (B : Nat) (s : ByteArray) (w : World) (hG : Glob B w) (hs : s.size ≤ 1099511627776) :
    Calls Tryz.prog 107 #[.string s] w fun e w' => (∃ v, e = .returned v ∧ AtRes s v) ∧ Below w.heap.size w w' := by
  have hopt := hG.opt
  have hd := run143
  replace hG := hide hG
  go_enter Tryz.func107, Tryz.ntmps107
  go_wp2_with (first
    | (go_at_call 133; (with_reducible refine (special_any s _ hs).mono ?_); rintro e w' ⟨⟨v, rfl, x, n, ok, rfl, hsp⟩, rfl⟩; cases ok; all_goals replace hsp := hide hsp)
    | (go_at_call 134; (with_reducible refine (rf_any s _ hs).mono ?_); rintro e w' ⟨⟨v, rfl, m, x2, neg, tr, hex, i, ok, rfl, hrf⟩, rfl⟩; have him := hrf.im; cases ok; all_goals (cases hex; all_goals replace hrf := hide hrf)))
  · go_ret3
    exact ⟨⟨_, rfl, at_err rfl (.inr rfl) (fun b hb => by obtain ⟨_, _, _, hl, _⟩ := num_lit hsp.out hb; have := (hrf.out.lit _ _ _ hl).1; cases this)⟩, Below.refl _ _⟩
  · go_ret3
    exact ⟨⟨_, rfl, at_err rfl (.inr rfl) (fun b hb => by obtain ⟨_, _, _, hl, _⟩ := num_lit hsp.out hb; have := (hrf.out.lit _ _ _ hl).1; cases this)⟩, Below.refl _ _⟩
  · refine (bool2_neg neg _).mono ?_
    rintro e w' ⟨rfl, rfl⟩
    have hsh := sign_shl neg
    have hor := or0 (signed neg 0) (signed_cut neg)
    have hmb := hide hrf.out.mb
    have hmd := hide (hrf.out.md rfl)
    by_cases hm0 : m = 0
    · subst hm0
      go_wp2
      go_ret3
      exact ⟨⟨_, rfl, at_good rfl (good_szero neg) (fun b hb => by
        obtain ⟨_, _, _, h4, h5⟩ := lit_use hsp.out hrf.out hb
        exact ⟨h4, by rcases h5 with ⟨_, h5⟩ | ⟨h5, _⟩; exact h5.symm; omega⟩)⟩, Below.refl _ _⟩
    by_cases h310 : 310 < x2
    · have hm1 : ((m : Int) == 0) = false := by simp; omega
      go_wp2
      go_ret3
      exact ⟨⟨_, rfl, at_err rfl (.inl rfl) (fun b hb => by
        obtain ⟨_, _, _, h4, h5⟩ := lit_use hsp.out hrf.out hb
        rcases h5 with ⟨h5, _⟩ | ⟨_, _, _, h5, _⟩ <;> omega)⟩, Below.refl _ _⟩
    by_cases h345 : x2 < -345
    · have hm1 : ((m : Int) == 0) = false := by simp; omega
      go_wp2
      go_ret3
      exact ⟨⟨_, rfl, at_good rfl (good_szero neg) (fun b hb => by
        obtain ⟨_, _, _, h4, h5⟩ := lit_use hsp.out hrf.out hb
        rcases h5 with ⟨h5, _⟩ | ⟨_, _, h5, _⟩ <;> omega)⟩, Below.refl _ _⟩
    have hm1 : ((m : Int) == 0) = false := by simp; omega
    have hm2 : 0 < m := by omega
    replace hm2 := hide hm2
    clear hm0
    cases tr
    · go_wp2_with (first
        | (go_at_call 144; (with_reducible refine (exact_any B m x2 neg _ hG.out hm2.out hmb.out).mono ?_); rintro e w' ⟨_, _, rfl, ⟨b, c, rfl, rfl, hE⟩, rfl⟩; cases c; all_goals replace hE := hide hE)
        | (go_at_call 145; (with_reducible refine (parse64_any B m x2 neg _ hG.out hm2.out hmb.out (by omega) (by omega)).mono ?_); rintro e w1 ⟨_, y1, rfl, hP, hbel⟩; obtain ⟨b1, rfl, hb1⟩ := parsed_good hP; replace hP := hide hP; replace hb1 := hide hb1; replace hbel := hide hbel))
      · go_ret3
        refine ⟨⟨_, rfl, ⟨b1, i, y1, rfl, ?_, fun b' hb' => ?_⟩⟩, hbel.out⟩
        · rcases hb1.out with h | h
          · exact .inl h
          · exact .inr (.inl h)
        · obtain ⟨_, _, _, h4, h5⟩ := lit_use hsp.out hrf.out hb'
          rcases h5 with ⟨h5, _⟩ | ⟨h5, h6, _, _, M, k, j1, j2, j3, j4, j5, j6⟩
          · have := hm2.out; omega
          · obtain ⟨q1, q2⟩ := parsed_near hP.out h5 h6 h345 h310 j1 j2 j3 j4 j5
            injection q1 with _ q1
            exact ⟨q2, h4, by rw [q1, j6]⟩
      · go_ret3
        obtain ⟨hgood, hE⟩ := hE.out trivial
        refine ⟨⟨_, rfl, at_good rfl hgood fun b' hb' => ?_⟩, Below.refl _ _⟩
        obtain ⟨_, _, _, h4, h5⟩ := lit_use hsp.out hrf.out hb'
        rcases h5 with ⟨h5, _⟩ | ⟨h5, h6, _, _, M, k, j1, j2, j3, j4, j5, j6⟩
        · have := hm2.out; omega
        · exact ⟨h4, by rw [j6]; exact hE M k j1 j2 j3 j4 j5⟩
    · have hw1 : IntKind.u64.wrap ((m : Int) + 1) = (m : Int) + 1 := by rw [IntKind.wrap_u64]; have := hmd.out; omega
      go_wp2_with (first
        | (go_at_call 145; (with_reducible refine (parse64_any B m x2 neg _ hG.out hm2.out hmb.out (by omega) (by omega)).mono ?_); rintro e w1 ⟨_, y1, rfl, hP, hbel⟩; obtain ⟨b1, rfl, hb1⟩ := parsed_good hP; replace hP := hide hP; replace hb1 := hide hb1; replace hbel := hide hbel)
        | (go_at_call 145; refine (parse64_any B (m + 1) x2 neg _ (hG.out.up hbel.out) (by omega) (by have := hmd.out; omega) (by omega) (by omega)).mono ?_; rintro e w2 ⟨_, y2, rfl, hP2, hbel2⟩; obtain ⟨b2, rfl, hb2⟩ := parsed_good hP2; replace hbel2 := hide (hbel.out.trans (hbel2.mono hbel.out.size)); clear hb2 hP2))
      have hno : ∀ b, ¬ NumT (bs s) b := fun b hb => by have := (lit_use hsp.out hrf.out hb).2.2.1; cases this
      · go_ret3
        refine ⟨⟨_, rfl, ⟨b1, i, y1, rfl, ?_, fun b' hb' => absurd hb' (hno b')⟩⟩, hbel2.out⟩
        rcases hb1.out with h | h
        · exact .inl h
        · exact .inr (.inl h)
      · have hno : ∀ b, ¬ NumT (bs s) b := fun b hb => by have := (lit_use hsp.out hrf.out hb).2.2.1; cases this
        replace hno := hide hno
        have hz := hide (dc_new w2)
        have hG2 := hide ((hG.out.up hbel2.out).up (below_alloc w2 (.cells Tryz.zeroCells179 179)))
        have hb3 := hide (hbel2.out.trans ((below_alloc w2 (.cells Tryz.zeroCells179 179)).mono hbel2.out.size))
        have hle : w.heap.size ≤ w2.heap.size := hbel2.out.size
        replace hle := hide hle
        go_wp2_with (first
          | (go_at_call 140; refine (dset_any w.heap.size w2.heap.size _ (s.extract 0 i) _ hz.out (fun _ _ => by omega) (by rw [extract_size _ _ _ him]; omega) hle.out).mono ?_; rintro e w3 ⟨⟨v, rfl, ⟨bb, rfl⟩⟩, ⟨f, nd, dp, j1, j2, _⟩, hb4⟩; replace j1 := hide j1; replace j2 := hide j2; replace hb4 := hide (hb3.out.trans hb4); (have hG3 := hide (hG.out.up hb4.out)); cases bb)
          | (go_at_call 141; refine (fbits_any B w.heap.size w2.heap.size f nd dp _ hG3.out j1.out j2.out hle.out hG.out.size).mono ?_; rintro e w4 ⟨⟨v, rfl, ⟨b3, o, rfl, j3, j4⟩⟩, hb5⟩; replace j3 := hide j3; cases o; all_goals (replace j4 := hide j4; replace hb5 := hide (hb4.out.trans hb5))))
        · go_ret3
          exact ⟨⟨_, rfl, at_err rfl (.inr rfl) hno.out⟩, hb4.out⟩
        · go_ret3
          exact ⟨⟨_, rfl, at_good rfl (j4.out trivial) (fun b hb => absurd hb (hno.out b))⟩, hb5.out⟩
        · go_ret3
          exact ⟨⟨_, rfl, at_err rfl (.inl rfl) hno.out⟩, hb5.out⟩
  · have hmb := hide hrf.out.mb
    go_wp2_with (first | (go_at_call 135; refine (hex_any B (s.extract 0 i) m x2 neg tr _ hG.out hmb.out hrf.out.x0 hrf.out.x1).mono ?_; rintro e w1 ⟨⟨v, rfl, ⟨b, rfl, hgood⟩ | ⟨b, rfl⟩⟩, hb⟩))
    · go_ret3
      exact ⟨⟨_, rfl, at_good rfl hgood (fun b hb => by obtain ⟨_, _, _, hl, _⟩ := num_lit hsp.out hb; have := (hrf.out.lit _ _ _ hl).2.1; cases this)⟩, hb⟩
    · go_ret3
      exact ⟨⟨_, rfl, at_err rfl (.inl rfl) (fun b hb => by obtain ⟨_, _, _, hl, _⟩ := num_lit hsp.out hb; have := (hrf.out.lit _ _ _ hl).2.1; cases this)⟩, hb⟩
  · go_ret3
    exact ⟨⟨_, rfl, at_special hsp.out⟩, Below.refl _ _⟩
end Go.Proofs.YtgmbjdoifkjdhaaGreatDoor
end
section
namespace Go.Proofs.YtgmbjdoifkjdhaaGreatDoor
open Go.RowKit

theorem prefix_any (B : Nat) (s : ByteArray) (w : World) (hG : Glob B w) (hs : s.size ≤ 1099511627776) :
    Calls Tryz.prog 85 #[.string s, .int .i64 64] w fun e w' => (∃ v, e = .returned v ∧ AtRes s v) ∧ Below w.heap.size w w' := by
  replace hG := hide hG
  go_enter Tryz.func85, Tryz.ntmps85
  go_wp2_with (first
    | (go_at_call 107; (with_reducible refine (atof_any B s _ hG.out hs).mono ?_); rintro e w1 ⟨⟨v, rfl, x, n, y, rfl, h1, h2⟩, hb⟩; replace h1 := hide h1; replace h2 := hide h2; replace hb := hide hb))
  go_ret3
  exact ⟨⟨_, rfl, x, n, y, rfl, h1.out, h2.out⟩, hb.out⟩
/-- What internal/strconv's ParseFloat answers. -/
def PfRes (s : ByteArray) (v : Value) : Prop :=
  ∃ (x : Nat) (y : Value), v = .tuple #[.float .f64 x, y] ∧ ((y = .nilIface ∧ Fl.Good x) ∨ AtErr y) ∧ ∀ b, NumT (bs s) b → y = .nilIface ∧ x = b
theorem parse_any (B : Nat) (s : ByteArray) (w : World) (hG : Glob B w) (hs : s.size ≤ 1099511627776) :
    Calls Tryz.prog 76 #[.string s, .int .i64 64] w fun e w' => (∃ v, e = .returned v ∧ PfRes s v) ∧ Below w.heap.size w w' := by
  replace hG := hide hG
  go_enter Tryz.func76, Tryz.ntmps76
  go_wp2_with (first
    | (go_at_call 85; (with_reducible refine (prefix_any B s _ hG.out hs).mono ?_); rintro e w1 ⟨⟨v, rfl, x, n, y, rfl, h1, h2⟩, hb⟩; replace h1 := hide h1; replace h2 := hide h2; replace hb := hide hb))
  · go_ret2
    refine ⟨⟨_, rfl, 0, _, rfl, .inr (.inr rfl), fun b hb' => ?_⟩, hb.out⟩
    have h3 := (h2.out b hb').2.1
    subst h3
    simp at *
  · go_ret2
    exact ⟨⟨_, rfl, x, y, rfl, h1.out, fun b hb' => ⟨(h2.out b hb').1, (h2.out b hb').2.2⟩⟩, hb.out⟩
def PfOut (s : ByteArray) (w : World) (e : Ending) (w' : World) : Prop :=
  (∃ x, (e = .returned (.tuple #[.float .f64 x, .nilIface]) ∧ Fl.Good x ∧ ∀ b, NumT (bs s) b → b = x) ∨ (∃ t q, e = .returned (.tuple #[.float .f64 x, .iface t q]) ∧ ∀ b, ¬ NumT (bs s) b)) ∧ Below w.heap.size w w'
set_option maxRecDepth 100000 in
theorem pf_any (B : Nat) (s : ByteArray) (w : World) (hG : Glob B w) (hs : s.size ≤ 1099511627776) : Calls Tryz.prog 66 #[.string s, .int .i64 64] w (PfOut s w) := by
  obtain ⟨t10, p10, h10⟩ := hG.e10
  obtain ⟨t11, p11, h11⟩ := hG.e11
  replace hG := hide hG
  have hs2 : s.size ≤ 281474976710656 := by omega
  replace hs2 := hide hs2
  go_enter Tryz.func66, Tryz.ntmps66
  go_wp2_with (first
    | (go_at_call 76; (with_reducible refine (parse_any B s _ hG.out hs).mono ?_); rintro e w1 ⟨⟨v, rfl, x, y, rfl, h1, h2⟩, hb⟩; (have h10' := cell_up hb h10); (have h11' := cell_up hb h11); replace h2 := hide h2; replace hb := hide hb; rcases h1 with ⟨rfl, hgood⟩ | rfl | rfl))
  · go_ret2
    exact ⟨⟨x, .inl ⟨rfl, hgood, fun b hb' => (h2.out b hb').2.symm⟩⟩, hb.out⟩
  · have hno : ∀ b, ¬ NumT (bs s) b := fun b hb' => by have := (h2.out b hb').1; cases this
    replace hno := hide hno
    clear h2
    refine (Tryz.strconv_toError_range _ s _ _ _ _ hs2.out h11' (.inr ⟨t11, p11, rfl⟩)).mono ?_
    rintro e w2 ⟨N, rfl, _, _, hb2⟩
    replace hb2 := hide (hb.out.trans (hb2.mono hb.out.size))
    go_wp2
    go_ret2
    exact ⟨⟨x, .inr ⟨_, _, rfl, hno.out⟩⟩, hb2.out⟩
  · have hno : ∀ b, ¬ NumT (bs s) b := fun b hb' => by have := (h2.out b hb').1; cases this
    replace hno := hide hno
    clear h2
    refine (Tryz.strconv_toError_syntax _ s _ _ _ _ hs2.out h10' (.inr ⟨t10, p10, rfl⟩)).mono ?_
    rintro e w2 ⟨N, rfl, _, _, hb2⟩
    replace hb2 := hide (hb.out.trans (hb2.mono hb.out.size))
    go_wp2
    go_ret2
    exact ⟨⟨x, .inr ⟨_, _, rfl, hno.out⟩⟩, hb2.out⟩
theorem numIO : NumIO NT where
  inner := nt_inner
  some_ := nt_some
  read := fun B s w hG hs => (pf_any B s w hG hs).mono fun _ _ ⟨⟨x, h⟩, hb⟩ => ⟨⟨x, h.imp (fun ⟨h1, h2, h3⟩ => ⟨h1, h2, fun b hb => h3 b hb.is⟩) (fun ⟨t, q, h1, h2⟩ => ⟨t, q, h1, fun b hb => h2 b hb.is⟩)⟩, hb⟩
end Go.Proofs.YtgmbjdoifkjdhaaGreatDoor
end
