/- readFloat: what it answers; its scan. atofHex: some good float, or a range error. -/
import Derived.Test.YtgmbjdoifkjdhaaGreatDoorKu
import Derived.Deep.DeepCutAuto
import Derived.Deep.CutBlock
import Derived.LaidEqlPtr
section
namespace Go.Proofs.YtgmbjdoifkjdhaaGreatDoor
open Go.RowKit

theorem results_tmp7 {fn : Func} {t u v x y z o : Tmp} (h : fn.results = #[.tmp t, .tmp u, .tmp v, .tmp x, .tmp y, .tmp z, .tmp o]) (tmps : Array Value) (P : Program) (w : World) :
    (results fn tmps).run P w = .ok (.tuple #[tmps.getD t undef, tmps.getD u undef, tmps.getD v undef, tmps.getD x undef, tmps.getD y undef, tmps.getD z undef, tmps.getD o undef]) w := by
  simp [results, h]
/-- What readFloat answers. -/
structure RfOut (s : ByteArray) (m : Nat) (x : Int) (neg tr hex : Bool) (i : Nat) (ok : Bool) : Prop where
  im : i ≤ s.size
  mb : m < 18446744073709551616
  md : hex = false → m < 18446744073709551615
  x0 : -1125899906842624 ≤ x
  x1 : x ≤ 1125899906842624
  lit : ∀ n d e, Lit (bs s) n d e → ok = true ∧ hex = false ∧ tr = false ∧ i = s.size ∧ m = d ∧ neg = n ∧ (d ≠ 0 → x = e)
def RfRes (s : ByteArray) (v : Value) : Prop := ∃ (m : Nat) (x : Int) (neg tr hex : Bool) (i : Nat) (ok : Bool), v = .tuple #[.int .u64 m, .int .i64 x, .bool neg, .bool tr, .bool hex, .int .i64 i, .bool ok] ∧ RfOut s m x neg tr hex i ok

/-- The length of the sign. -/
def sgn (s : ByteArray) : Nat := if h : 0 < s.size then (if (s[0].toNat : Int) = 43 ∨ (s[0].toNat : Int) = 45 then 1 else 0) else 0
def Rf1 (s : ByteArray) (ng : Bool) (k : Nat) : Prop := k = sgn s ∧ k ≤ s.size ∧ ∀ n m e, Lit (bs s) n m e → n = ng ∧ LitB ((bs s).drop k) m e
/-- Hexadecimal. -/
def Hexy (s : ByteArray) : Prop := ∃ (h1 : sgn s < s.size) (h2 : sgn s + 1 < s.size), sgn s + 2 < s.size ∧ (s[sgn s].toNat : Int) = 48 ∧ lowB s[sgn s + 1] = 120
theorem vint {k : IntKind} {a b : Int} (h : a = b) : Value.int k a = .int k b := by rw [h]
theorem u8_of {c : UInt8} {n : Nat} (hn : n < 256) (h : (c.toNat : Int) = n) : c = UInt8.ofNat n := u8_eq hn (by simp [h])
theorem u8_no {c : UInt8} {n : Nat} (hn : n < 256) (h : ¬ (c.toNat : Int) = n) : c ≠ UInt8.ofNat n := fun hc => h (by subst hc; simp; omega)
/-- The seven ways of a byte through the scan. -/
theorem sc_cases (c : UInt8) (t : List UInt8) (m nd nm : Nat) (dp : Int) (dot dig und tr : Bool) :
    ((c.toNat : Int) = 95 ∧ Hid (Sc.run (c :: t) ⟨m, nd, nm, dp, dot, dig, und, tr⟩ = Sc.run t ⟨m, nd, nm, dp, dot, dig, true, tr⟩)) ∨
    ((c.toNat : Int) = 46 ∧ dot = true ∧ Hid (Sc.run (c :: t) ⟨m, nd, nm, dp, dot, dig, und, tr⟩ = (⟨m, nd, nm, dp, dot, dig, und, tr⟩, c :: t))) ∨
    ((c.toNat : Int) = 46 ∧ dot = false ∧ Hid (Sc.run (c :: t) ⟨m, nd, nm, dp, dot, dig, und, tr⟩ = Sc.run t ⟨m, nd, nm, nd, true, dig, und, tr⟩)) ∨
    ((c.toNat : Int) = 48 ∧ nd = 0 ∧ Hid (Sc.run (c :: t) ⟨m, nd, nm, dp, dot, dig, und, tr⟩ = Sc.run t ⟨m, nd, nm, dp - 1, dot, true, und, tr⟩)) ∨
    ((c.toNat : Int) = 48 ∧ 0 < nd ∧ Hid (Sc.run (c :: t) ⟨m, nd, nm, dp, dot, dig, und, tr⟩ = Sc.run t (if nm < 19 then ⟨m * 10 + (c.toNat - 48), nd + 1, nm + 1, dp, dot, true, und, tr⟩ else ⟨m, nd + 1, nm, dp, dot, true, und, tr⟩))) ∨
    (48 < (c.toNat : Int) ∧ (c.toNat : Int) ≤ 57 ∧ Hid (Sc.run (c :: t) ⟨m, nd, nm, dp, dot, dig, und, tr⟩ = Sc.run t (if nm < 19 then ⟨m * 10 + (c.toNat - 48), nd + 1, nm + 1, dp, dot, true, und, tr⟩ else ⟨m, nd + 1, nm, dp, dot, true, und, true⟩))) ∨
    (¬ (c.toNat : Int) = 95 ∧ ¬ (c.toNat : Int) = 46 ∧ (¬ 48 ≤ (c.toNat : Int) ∨ ¬ (c.toNat : Int) ≤ 57) ∧ Hid (Sc.run (c :: t) ⟨m, nd, nm, dp, dot, dig, und, tr⟩ = (⟨m, nd, nm, dp, dot, dig, und, tr⟩, c :: t))) := by
  by_cases h1 : (c.toNat : Int) = 95
  · have := u8_of (n := 95) (by decide) h1
    subst this
    exact .inl ⟨h1, by simp [Hid, Sc.run, Sc.step]⟩
  have n1 : c ≠ 95 := u8_no (n := 95) (by decide) h1
  by_cases h2 : (c.toNat : Int) = 46
  · have := u8_of (n := 46) (by decide) h2
    subst this
    cases dot
    · exact .inr (.inr (.inl ⟨h2, rfl, by simp [Hid, Sc.run, Sc.step]⟩))
    · exact .inr (.inl ⟨h2, rfl, by simp [Hid, Sc.run, Sc.step]⟩)
  have n2 : c ≠ 46 := u8_no (n := 46) (by decide) h2
  by_cases h3 : isD c
  · have h4 : 48 ≤ (c.toNat : Int) ∧ (c.toNat : Int) ≤ 57 := by unfold isD at h3; omega
    by_cases h5 : (c.toNat : Int) = 48
    · have e5 := u8_of (n := 48) (by decide) h5
      have e5' : c = 48 := e5
      by_cases h6 : nd = 0
      · refine .inr (.inr (.inr (.inl ⟨h5, h6, hide ?_⟩)))
        simp only [Sc.run, Sc.step, if_neg n1, if_neg n2, if_pos h3, if_pos (And.intro e5' h6)]
      · refine .inr (.inr (.inr (.inr (.inl ⟨h5, by omega, hide ?_⟩))))
        have h8 : ¬ (c = 48 ∧ nd = 0) := fun h => h6 h.2
        have h10 : (c != 48) = false := by simp [e5']
        by_cases h7 : nm < 19
        · simp only [Sc.run, Sc.step, if_neg n1, if_neg n2, if_pos h3, if_neg h8, if_pos h7]
        · simp only [Sc.run, Sc.step, if_neg n1, if_neg n2, if_pos h3, if_neg h8, if_neg h7, h10, Bool.or_false]
    · refine .inr (.inr (.inr (.inr (.inr (.inl ⟨by omega, h4.2, hide ?_⟩)))))
      have h8 : ¬ (c = 48 ∧ nd = 0) := fun h => u8_no (n := 48) (by decide) h5 h.1
      have h9 : c ≠ 48 := u8_no (n := 48) (by decide) h5
      have h10 : (c != 48) = true := by simpa using h9
      by_cases h7 : nm < 19
      · simp only [Sc.run, Sc.step, if_neg n1, if_neg n2, if_pos h3, if_neg h8, if_pos h7]
      · simp only [Sc.run, Sc.step, if_neg n1, if_neg n2, if_pos h3, if_neg h8, if_neg h7, h10, Bool.or_true]
  · refine .inr (.inr (.inr (.inr (.inr (.inr ⟨h1, h2, by unfold isD at h3; omega, hide ?_⟩)))))
    simp only [Sc.run, Sc.step, if_neg n1, if_neg n2, if_neg h3]
theorem pow_step {m b n d : Nat} (h : m < b ^ n) (hd : d < b) : m * b + d < b ^ (n + 1) := by
  have h1 : (m + 1) * b ≤ b ^ n * b := Nat.mul_le_mul_right _ h
  rw [Nat.pow_succ]
  rw [Nat.add_mul] at h1
  omega
theorem room10 {m nm : Nat} (hm : m < 10 ^ nm) (hn : nm < 19) : m < 1000000000000000000 := by
  have : 10 ^ nm ≤ 10 ^ 18 := Nat.pow_le_pow_right (by decide) (by omega)
  exact Nat.lt_of_lt_of_le hm this
theorem room16 {m nm : Nat} (hm : m < 16 ^ nm) (hn : nm < 16) : m < 1152921504606846976 := by
  have : 16 ^ nm ≤ 16 ^ 15 := Nat.pow_le_pow_right (by decide) (by omega)
  exact Nat.lt_of_lt_of_le hm this
theorem low_all : ((List.range 256).all fun n => (lowB (UInt8.ofNat n) != 120 || n == 88 || n == 120) && decide (0 ≤ lowB (UInt8.ofNat n)) && decide (lowB (UInt8.ofNat n) < 256)) = true := by kernel_rfl
theorem low_at (c : UInt8) : (lowB c = 120 → c.toNat = 88 ∨ c.toNat = 120) ∧ 0 ≤ lowB c ∧ lowB c < 256 := by
  have h := List.all_eq_true.mp low_all c.toNat (List.mem_range.mpr c.toNat_lt)
  simp only [UInt8.ofNat_toNat, Bool.and_eq_true, Bool.or_eq_true, bne_iff_ne, beq_iff_eq, decide_eq_true_eq, ne_eq] at h
  refine ⟨fun hc => ?_, h.1.2, h.2⟩
  rcases h.1.1 with (h1 | h1) | h1
  · exact absurd hc h1
  · exact .inl h1
  · exact .inr h1
theorem lowB_lt (c : UInt8) : 0 ≤ lowB c ∧ lowB c < 256 := (low_at c).2
theorem litb_second {a c : UInt8} {t : List UInt8} {m : Nat} {e : Int} (h : LitB (a :: c :: t) m e) : lowB c ≠ 120 := by
  have key : isD c ∨ c = 46 ∨ c = 101 := by
    obtain ⟨ip, fr, fp, ex, ev, hl, hne, hip, hfr, hex, _⟩ := h
    cases ip with
    | nil => exact absurd rfl hne
    | cons x ip =>
      injection hl with _ hl
      cases ip with
      | cons y ip => injection hl with h1 _; exact .inl (by rw [h1]; exact hip y (by simp))
      | nil =>
        cases hfr with
        | some _ => injection hl with h1 _; exact .inr (.inl h1)
        | none =>
          cases hex with
          | none => cases hl
          | plus _ _ _ => injection hl with h1 _; exact .inr (.inr h1)
          | minus _ _ _ => injection hl with h1 _; exact .inr (.inr h1)
  intro hc
  rcases (low_at c).1 hc with h1 | h1
  · rcases key with h2 | rfl | rfl
    · unfold isD at h2; omega
    · exact absurd h1 (by decide)
    · exact absurd h1 (by decide)
  · rcases key with h2 | rfl | rfl
    · unfold isD at h2; omega
    · exact absurd h1 (by decide)
    · exact absurd h1 (by decide)
theorem rf1_plus {s : ByteArray} (h0 : 0 < s.size) (h : (s[0].toNat : Int) = 43) : Rf1 s false 1 := by
  refine ⟨by simp [sgn, h0, h], h0, fun n m e hl => ?_⟩
  obtain ⟨_, h1, h2⟩ := lit_head hl
  cases n with
  | false => have := h1 h0 rfl; unfold isD at this; omega
  | true => have := (h2 rfl).2.1 h0; rw [this] at h; exact absurd h (by decide)
theorem rf1_minus {s : ByteArray} (h0 : 0 < s.size) (h : (s[0].toNat : Int) = 45) : Rf1 s true 1 := by
  refine ⟨by simp [sgn, h0, h], h0, fun n m e hl => ?_⟩
  obtain ⟨_, h1, h2⟩ := lit_head hl
  cases n with
  | false => have := h1 h0 rfl; unfold isD at this; omega
  | true =>
    refine ⟨rfl, ?_⟩
    obtain ⟨l', hl1, hl2⟩ := hl
    rw [hl1]; exact hl2
theorem rf1_none {s : ByteArray} (h0 : 0 < s.size) (h1 : ¬ (s[0].toNat : Int) = 43) (h : ¬ (s[0].toNat : Int) = 45) : Rf1 s false 0 := by
  refine ⟨by simp [sgn, h1, h], Nat.zero_le _, fun n m e hl => ?_⟩
  obtain ⟨_, h1, h2⟩ := lit_head hl
  cases n with
  | false =>
    refine ⟨rfl, ?_⟩
    obtain ⟨l', hl1, hl2⟩ := hl
    rw [hl1]; exact hl2
  | true => have := (h2 rfl).2.1 h0; rw [this] at h; exact absurd rfl h
theorem hexy_lit {s : ByteArray} {ng : Bool} {k : Nat} (h : Hexy s) (hk : Rf1 s ng k) : ∀ n m e, ¬ Lit (bs s) n m e := by
  intro n m e hl
  obtain ⟨h1, h2, h3, _, h5⟩ := h
  have hb := (hk.2.2 n m e hl).2
  rw [hk.1, bs_drop s _ h1, bs_drop s _ h2] at hb
  exact litb_second hb h5
end Go.Proofs.YtgmbjdoifkjdhaaGreatDoor
end
section
namespace Go.Proofs.YtgmbjdoifkjdhaaGreatDoor
open Go.RowKit

theorem or_le_add (a b : Nat) (hb : b ≤ 1) : a ||| b ≤ a + b := by
  rcases Nat.le_one_iff_eq_zero_or_eq_one.mp hb with rfl | rfl
  · simp
  · rw [Fl.or_one]; omega
/-- Half of it, the last bit kept. -/
theorem halve_or (m : Nat) (h : m < 18446744073709551616) : ∃ v : Nat, bits .or .u64 ((m : Int) / 2) (bits .and .u64 (m : Int) 1) = (v : Int) ∧ v ≤ m / 2 + 1 ∧ v < 9223372036854775808 ∧ (1 < m → 0 < v) := by
  refine ⟨m / 2 ||| m % 2, ?_, ?_, ?_, ?_⟩
  · rw [and1 m h, show (m : Int) / 2 = ((m / 2 : Nat) : Int) by omega]
    exact u64_or_nat (m / 2) (m % 2) (by omega) (by omega)
  · have := or_le_add (m / 2) (m % 2) (by omega); omega
  · exact Nat.or_lt_two_pow (n := 63) (by omega) (by omega)
  · intro h1
    have : m / 2 ≤ m / 2 ||| m % 2 := Nat.left_le_or
    omega
theorem round_or (m : Nat) (h : m < 36028797018963968) : ∃ r : Nat, bits .or .u64 (bits .and .u64 (m : Int) 3) (bits .and .u64 ((m : Int) / 4) 1) = (r : Int) ∧ (m ≤ 1 → r ≤ 1) := by
  refine ⟨(m &&& 3) ||| (m / 4 % 2), ?_, ?_⟩
  · rw [show (m : Int) / 4 = ((m / 4 : Nat) : Int) by omega, and1 (m / 4) (by omega)]
    have h1 : m &&& 3 < 2 ^ 2 := Nat.and_lt_two_pow _ (by decide)
    have h2 := u64_and_nat m 3 (by omega) (by decide)
    rw [show ((3 : Nat) : Int) = 3 from rfl] at h2
    rw [h2]
    exact u64_or_nat _ _ (by omega) (by omega)
  · intro h1
    rcases Nat.le_one_iff_eq_zero_or_eq_one.mp h1 with rfl | rfl <;> decide
theorem mask52 (m : Nat) (h : m < 18446744073709551616) : bits .and .u64 (m : Int) 4503599627370495 = ((m % 4503599627370496 : Nat) : Int) := by
  have h2 := u64_and_nat m 4503599627370495 h (by decide)
  rw [show m &&& 4503599627370495 = m % 4503599627370496 from Nat.and_two_pow_sub_one_eq_mod m 52] at h2
  exact h2
theorem mask11 (x : Nat) (h : x < 2048) : bits .and .i64 (x : Int) 2047 = (x : Int) := by
  have h2 := i64_and_nat x 2047 (by omega) (by decide)
  rw [show x &&& 2047 = x % 2048 from Nat.and_two_pow_sub_one_eq_mod x 11, Nat.mod_eq_of_lt h] at h2
  exact h2
theorem join52 (f e : Nat) (hf : f < 4503599627370496) (he : e < 2048) : bits .or .u64 (f : Int) ((e : Int) * 4503599627370496) = ((e * 4503599627370496 + f : Nat) : Int) := by
  rw [show (e : Int) * 4503599627370496 = ((e * 4503599627370496 : Nat) : Int) by omega, u64_or_nat _ _ (by omega) (by omega), Nat.or_comm]
  congr 1
  exact nat_join 52 _ _ (Nat.mul_mod_left _ _) hf
theorem join63 (b : Nat) (h : b < 9223372036854775808) : bits .or .u64 (b : Int) 9223372036854775808 = ((b + 9223372036854775808 : Nat) : Int) := by
  have h2 := u64_or_nat b 9223372036854775808 (by omega) (by decide)
  rw [Nat.or_comm, nat_join 63 _ _ (by decide) h, Nat.add_comm] at h2
  exact h2
theorem under211 : Tryz.prog.underlying 211 = some (.pointer 213) := by kernel_rfl
theorem info213 : (Tryz.prog.info? 213).map (·.size) = some 3 := by kernel_rfl
def HexOut (v : Value) : Prop := (∃ b, v = .tuple #[.float .f64 b, .nilIface] ∧ Fl.Good b) ∨ ∃ b, v = .tuple #[.float .f64 b, .iface 150 (.int .i64 1)]
set_option maxRecDepth 100000 in
set_option maxHeartbeats 4000000 in
theorem hex_any (B : Nat) (s : ByteArray) (m : Nat) (x : Int) (neg tr : Bool) (w : World) (hG : Glob B w) (hm : m < 18446744073709551616) (hx0 : -1125899906842624 ≤ x) (hx1 : x ≤ 1125899906842624) :
    Calls Tryz.prog 135 #[.string s, .pointer (some ⟨14, 0, none⟩), .int .u64 m, .int .i64 x, .bool neg, .bool tr] w fun e w' => (∃ v, e = .returned v ∧ HexOut v) ∧ Below w.heap.size w w' := by
  have hfm := hG.fm
  have hfe := hG.fe
  have hfb := hG.fb
  have heql : ∀ n, (binOp .eql 211 (.pointer (some ⟨14, 0, none⟩)) (.pointer (some ⟨13, 0, none⟩))).run Tryz.prog (w.drewN n) = .ok (.bool false) (w.drewN n) := by
    intro n
    obtain ⟨c3, t3, e3⟩ := hG.b13
    obtain ⟨c4, t4, e4⟩ := hG.b14
    have hi := info213
    cases hj : Tryz.prog.info? 213 with
    | none => rw [hj] at hi; cases hi
    | some j =>
      rw [hj] at hi
      simp at hi
      exact run_eql_ptr_other (w.drewN n) under211 hj (by omega) (by simp) e4 e3
  clear hG
  go_enter Tryz.func135, Tryz.ntmps135
  go_wp2
  go_quiet (fail)
  go_upto_block 0 with (fail)
  go_cut [2, 3] (fun s2 s3 w' => (∃ (m : Nat) (x : Int), s2 = .int .u64 m ∧ s3 = .int .i64 x ∧ m < 18446744073709551616 ∧ -40000000000000000 ≤ x ∧ x ≤ 1125899906842700) ∧ w.drewN nq = w')
  case first =>
    go_wp2
    go_loop [2, 3] (fun s2 s3 => ∃ (m1 : Nat) (x1 : Int), s2 = .int .u64 m1 ∧ s3 = .int .i64 x1 ∧ m1 < 18446744073709551616 ∧ (x + 52 - m1 ≤ x1 ∨ x1 = x + 52) ∧ x1 ≤ x + 52 ∧ (x1 = x + 52 ∨ m1 < 36028797018963968)) (fun s2 _ => 18446744073709551616 - (intOf s2).toNat)
    case atStart => exact ⟨m, x + 52, rfl, rfl, hm, by omega, by omega, by omega⟩
    case round =>
      obtain ⟨m1, x1, rfl, rfl, h1, h2, h3, h4⟩ := hrel
      by_cases hz : m1 = 0
      · subst hz
        go_wp2
        go_meet; case rel => exact ⟨⟨0, x1, rfl, rfl, by omega, by omega, by omega⟩, rfl⟩
      · by_cases hlt : m1 < 18014398509481984
        · have hq : ((m1 : Int) / 18014398509481984 == 0) = true := by simp; omega
          go_wp2
          exact ⟨⟨m1 * 2, x1 - 1, vint (by omega), rfl, by omega, by omega, by omega, by omega⟩, by simp [intOf]; omega⟩
        · have hq : ((m1 : Int) / 18014398509481984 == 0) = false := by simp; omega
          go_wp2
          go_meet; case rel => exact ⟨⟨m1, x1, rfl, rfl, by omega, by omega, by omega⟩, rfl⟩
  case rest =>
  obtain ⟨⟨m1, x1, rfl, rfl, h1, h2, h3⟩, rfl⟩ := hcut
  have hor := or1 m1 h1
  have hor2 : m1 ||| 1 < 18446744073709551616 := Nat.or_lt_two_pow (n := 64) (by omega) (by omega)
  obtain ⟨mo, hmo⟩ : ∃ mo, m1 ||| 1 = mo := ⟨_, rfl⟩
  rw [hmo] at hor hor2
  clear hmo hm hx0 hx1
  go_upto_if 58 with (fail)
  go_cut [2] (fun s2 w' => (∃ (m : Nat), s2 = .int .u64 m ∧ m < 18446744073709551616) ∧ w.drewN nq = w')
  case first =>
    cases tr
    · go_wp2
      go_meet; case rel => exact ⟨⟨m1, rfl, h1⟩, rfl⟩
    · go_wp2
      go_meet; case rel => exact ⟨⟨mo, rfl, hor2⟩, rfl⟩
  case rest =>
  clear hor hor2
  obtain ⟨⟨m2, rfl, h4⟩, rfl⟩ := hcut
  go_upto_block 2 with (fail)
  go_cut [2, 3] (fun s2 s3 w' => (∃ (m : Nat) (x : Int), s2 = .int .u64 m ∧ s3 = .int .i64 x ∧ m < 36028797018963968 ∧ -40000000000000000 ≤ x ∧ x ≤ 1125899906852700) ∧ w.drewN nq = w')
  case first =>
    go_wp2
    go_loop [2, 3] (fun s2 s3 => ∃ (m : Nat) (x : Int), s2 = .int .u64 m ∧ s3 = .int .i64 x ∧ m < 18446744073709551616 ∧ x1 ≤ x ∧ (x - x1) * 18014398509481983 + m ≤ 18446744073709551616) (fun s2 _ => (intOf s2).toNat)
    case atStart => exact ⟨m2, x1, rfl, rfl, h4, by omega, by omega⟩
    case round =>
      obtain ⟨m3, x3, rfl, rfl, h5, h6, h7⟩ := hrel
      by_cases hlt : m3 < 36028797018963968
      · have hq : ((m3 : Int) / 36028797018963968 != 0) = false := by simp; omega
        go_wp2
        go_meet; case rel => exact ⟨⟨m3, x3, rfl, rfl, hlt, by omega, by omega⟩, rfl⟩
      · have hq : ((m3 : Int) / 36028797018963968 != 0) = true := by simp; omega
        obtain ⟨v, e1, e2, e3, e4⟩ := halve_or m3 h5
        go_wp2
        exact ⟨⟨v, x3 + 1, rfl, rfl, by omega, by omega, by omega⟩, by simp [intOf]; omega⟩
  case rest =>
  clear h1 h2 h3 h4
  obtain ⟨⟨m3, x3, rfl, rfl, h1, h2, h3⟩, rfl⟩ := hcut
  go_upto_block 4 with (fail)
  go_cut [2, 3] (fun s2 s3 w' => (∃ (m : Nat) (x : Int), s2 = .int .u64 m ∧ s3 = .int .i64 x ∧ m < 36028797018963968 ∧ (m ≤ 1 ∨ -1024 ≤ x) ∧ -40000000000000000 ≤ x ∧ x ≤ 1125899906852700) ∧ w.drewN nq = w')
  case first =>
    go_wp2
    go_loop [2, 3] (fun s2 s3 => ∃ (m : Nat) (x : Int), s2 = .int .u64 m ∧ s3 = .int .i64 x ∧ m < 36028797018963968 ∧ -40000000000000000 ≤ x ∧ x ≤ 1125899906852700) (fun _ s3 => (-1024 - intOf s3).toNat)
    case atStart => exact ⟨m3, x3, rfl, rfl, h1, h2, h3⟩
    case round =>
      obtain ⟨m4, x4, rfl, rfl, h5, h6, h7⟩ := hrel
      by_cases hlt : 1 < m4
      · by_cases hx4 : x4 < -1024
        · obtain ⟨v, e1, e2, e3, e4⟩ := halve_or m4 (by omega)
          go_wp2
          exact ⟨⟨v, x4 + 1, rfl, rfl, by omega, by omega, by omega⟩, by simp [intOf]; omega⟩
        · go_wp2
          go_meet; case rel => exact ⟨⟨m4, x4, rfl, rfl, h5, by omega, h6, h7⟩, rfl⟩
      · go_wp2
        go_meet; case rel => exact ⟨⟨m4, x4, rfl, rfl, h5, by omega, h6, h7⟩, rfl⟩
  case rest =>
  clear h1 h2 h3
  obtain ⟨⟨m4, x4, rfl, rfl, h1, h2, h3, h4⟩, rfl⟩ := hcut
  obtain ⟨r, hr, hr1⟩ := round_or m4 h1
  go_upto_if 103 with (fail)
  go_cut [2, 3] (fun s2 s3 w' => (∃ (m : Nat) (x : Int), s2 = .int .u64 m ∧ s3 = .int .i64 x ∧ m < 9007199254740992 ∧ (m = 0 ∨ -1022 ≤ x) ∧ x ≤ 1125899906852710) ∧ w.drewN nq = w')
  case first =>
    by_cases h3r : r = 3
    · subst h3r
      by_cases hov : m4 / 4 + 1 = 9007199254740992
      · have hov2 : ((m4 : Int) / 4 + 1) = 9007199254740992 := by omega
        go_wp2
        go_meet; case rel => exact ⟨⟨4503599627370496, x4 + 2 + 1, vint (by omega), vint (by omega), by omega, by omega, by omega⟩, rfl⟩
      · have hov2 : ¬ ((m4 : Int) / 4 + 1) = 9007199254740992 := by omega
        go_wp2
        go_meet; case rel => exact ⟨⟨m4 / 4 + 1, x4 + 2, vint (by omega), rfl, by omega, by omega, by omega⟩, rfl⟩
    · go_wp2
      go_meet; case rel => exact ⟨⟨m4 / 4, x4 + 2, vint (by omega), rfl, by omega, by omega, by omega⟩, rfl⟩
  case rest =>
  clear h1 h2 h3 h4 hr hr1
  obtain ⟨⟨m5, x5, rfl, rfl, h1, h2, h3⟩, rfl⟩ := hcut
  go_upto_if 124 with (fail)
  go_cut [3] (fun s3 w' => (∃ (x : Int), s3 = .int .i64 x ∧ -1023 ≤ x ∧ x ≤ 1125899906852710) ∧ w.drewN nq = w')
  case first =>
    by_cases hd : m5 < 4503599627370496
    · have hq : ((m5 : Int) / 4503599627370496 == 0) = true := by simp; omega
      go_wp2
      go_meet; case rel => exact ⟨⟨-1023, rfl, by omega, by omega⟩, rfl⟩
    · have hq : ((m5 : Int) / 4503599627370496 == 0) = false := by simp; omega
      go_wp2
      go_meet; case rel => exact ⟨⟨x5, rfl, by omega, by omega⟩, rfl⟩
  case rest =>
  clear h2 h3
  obtain ⟨⟨x6, rfl, h2, h3⟩, rfl⟩ := hcut
  go_upto_if 131 with (fail)
  go_cut [2, 3, 17] (fun s2 s3 s17 w' => (∃ (m : Nat) (x : Nat), s2 = .int .u64 m ∧ s3 = .int .i64 ((x : Int) - 1023) ∧ m < 9007199254740992 ∧ x < 2048 ∧ ((s17 = .nilIface ∧ x < 2047) ∨ s17 = .iface 150 (.int .i64 1))) ∧ w.drewN nq = w')
  case first =>
    by_cases hd : x6 ≤ 1023
    · go_wp2
      go_meet; case rel => exact ⟨⟨m5, (x6 + 1023).toNat, rfl, vint (by omega), h1, by omega, .inl ⟨rfl, by omega⟩⟩, rfl⟩
    · go_wp2
      go_meet; case rel => exact ⟨⟨4503599627370496, 2047, vint (by omega), vint (by omega), by omega, by omega, .inr rfl⟩, rfl⟩
  case rest =>
  clear h1 h2 h3
  obtain ⟨⟨m7, x7, rfl, rfl, h1, h2, h3⟩, rfl⟩ := hcut
  have hm52 := mask52 m7 (by omega)
  have hf : m7 % 4503599627370496 < 4503599627370496 := Nat.mod_lt _ (by decide)
  obtain ⟨f, hff⟩ : ∃ f, m7 % 4503599627370496 = f := ⟨_, rfl⟩
  rw [hff] at hm52 hf
  have hm11 := mask11 x7 h2
  have hj := join52 f x7 hf h2
  have hd := run143
  have hb : x7 * 4503599627370496 + f < 9223372036854775808 := by omega
  obtain ⟨bb, hbb⟩ : ∃ bb, x7 * 4503599627370496 + f = bb := ⟨_, rfl⟩
  have hgood : x7 < 2047 → bb ≤ 9218868437227405312 := by intro h; omega
  rw [hbb] at hj hb
  have hj63 := join63 bb hb
  have hres : ∀ (b : Nat), (b = bb ∨ b = bb + 9223372036854775808) → x7 < 2047 → Fl.Good b := by
    intro b hb2 hx
    have := hgood hx
    unfold Fl.Good
    omega
  clear hgood
  replace hres := hide hres
  go_wp2
  go_quiet (fail)
  cases neg
  · go_wp2
    go_ret2
    rcases h3 with ⟨rfl, h3⟩ | rfl
    · exact ⟨⟨_, rfl, .inl ⟨bb, rfl, hres.out bb (.inl rfl) h3⟩⟩, below_drewN (Below.refl _ _) _⟩
    · exact ⟨⟨_, rfl, .inr ⟨bb, rfl⟩⟩, below_drewN (Below.refl _ _) _⟩
  · go_wp2
    go_quiet (fail)
    go_wp2
    go_ret2
    rcases h3 with ⟨rfl, h3⟩ | rfl
    · exact ⟨⟨_, rfl, .inl ⟨bb + 9223372036854775808, rfl, hres.out _ (.inr rfl) h3⟩⟩, below_drewN (Below.refl _ _) _⟩
    · exact ⟨⟨_, rfl, .inr ⟨bb + 9223372036854775808, rfl⟩⟩, below_drewN (Below.refl _ _) _⟩
end Go.Proofs.YtgmbjdoifkjdhaaGreatDoor
end
