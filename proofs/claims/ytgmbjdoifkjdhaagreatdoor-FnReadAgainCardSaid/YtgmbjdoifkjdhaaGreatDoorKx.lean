/- leftShift. Shift of the slow road's decimal. -/
import Derived.Test.YtgmbjdoifkjdhaaGreatDoorKw
section
namespace Go.Proofs.YtgmbjdoifkjdhaaGreatDoor
open Go.RowKit

theorem cheat_gS (k : Nat) : gS ⟨(cheatCut k).toArray⟩ = cutF k := rfl
theorem cheat_size (k : Nat) : (⟨(cheatCut k).toArray⟩ : ByteArray).size = (cheatCut k).length := rfl
/-- The value of the digits from r on. -/
def dsf (f : Nat → Nat) (nd : Nat) : Nat → Nat
  | 0 => 0
  | m + 1 => (f (nd - (m + 1)) - 48) * 10 ^ m + dsf f nd m
theorem dvf_dsf (f : Nat → Nat) (nd : Nat) : ∀ m, m ≤ nd → dvf f nd = dvf f (nd - m) * 10 ^ m + dsf f nd m := by
  intro m
  induction m with
  | zero => intro _; simp [dsf]
  | succ m ih =>
    intro h
    rw [ih (by omega)]
    have h1 : dvf f (nd - m) = dvf f (nd - (m + 1)) * 10 + (f (nd - (m + 1)) - 48) := by
      conv => lhs; rw [show nd - m = nd - (m + 1) + 1 by omega]
      rfl
    rw [h1, Nat.pow_succ]
    show _ = dvf f (nd - (m + 1)) * (10 ^ m * 10) + ((f (nd - (m + 1)) - 48) * 10 ^ m + dsf f nd m)
    rw [Nat.add_mul, Nat.mul_assoc, Nat.mul_comm 10 (10 ^ m)]
    omega
/-- One digit more into the carry. -/
theorem carry_step (d s m K : Nat) : (s * K / 10 ^ m + d * K) / 10 = (d * 10 ^ m + s) * K / 10 ^ (m + 1) := by
  have hp : 0 < 10 ^ m := Nat.pow_pos (by decide)
  have h1 : s * K / 10 ^ m + d * K = (d * 10 ^ m + s) * K / 10 ^ m := by
    rw [Nat.add_mul, show d * 10 ^ m * K = d * K * 10 ^ m from Nat.mul_right_comm _ _ _, Nat.add_comm (d * K * 10 ^ m), Nat.add_mul_div_right _ _ hp]
  rw [h1, Nat.div_div_eq_div_mul, Nat.pow_succ]
theorem dsf_lt {f : Nat → Nat} {nd : Nat} (hf : ∀ j, j < nd → 48 ≤ f j ∧ f j ≤ 57) : ∀ m, m ≤ nd → dsf f nd m < 10 ^ m := by
  intro m
  induction m with
  | zero => intro _; simp [dsf]
  | succ m ih =>
    intro h
    have h1 := ih (by omega)
    have h2 := hf (nd - (m + 1)) (by omega)
    have h3 : (f (nd - (m + 1)) - 48) * 10 ^ m ≤ 9 * 10 ^ m := Nat.mul_le_mul_right _ (by omega)
    show (f (nd - (m + 1)) - 48) * 10 ^ m + dsf f nd m < 10 ^ (m + 1)
    rw [Nat.pow_succ]
    omega
theorem dsf_carry {f : Nat → Nat} {nd m K : Nat} (hf : ∀ j, j < nd → 48 ≤ f j ∧ f j ≤ 57) (hm : m ≤ nd) (hK : 0 < K) : dsf f nd m * K / 10 ^ m < K :=
  Nat.div_lt_of_lt_mul (Nat.mul_lt_mul_of_pos_right (dsf_lt hf m hm) hK)
theorem dsf_all (f : Nat → Nat) (nd : Nat) : dsf f nd nd = dvf f nd := by
  have := dvf_dsf f nd nd (Nat.le_refl _)
  rw [Nat.sub_self] at this
  simp [dvf] at this
  exact this.symm
/-- What no digit of the carry has been written: the first digit has grown. -/
structure LsD0 (f g : Nat → Nat) (nd m n K : Nat) : Prop where
  q : 0 < m → ∃ q, g (nd - m) = 48 + q % 10 ∧ n = q / 10 ∧ (f (nd - m) - 48) * K ≤ q
/-- The digits as the shift goes on: those from wi on are new, those before r still the old ones. -/
structure LsSt (f g : Nat → Nat) (r wi top : Nat) : Prop where
  old : ∀ i, i < r → g i = f i
  new : ∀ i, wi ≤ i → i < top → i < 800 → 48 ≤ g i ∧ g i ≤ 57
  byte : ∀ i, i < 800 → g i < 256
theorem LsSt.put {f g : Nat → Nat} {r wi top c : Nat} (h : LsSt f g r (wi + 1) top) (hr : r ≤ wi) (hc : 48 ≤ c ∧ c ≤ 57) : LsSt f (upd g wi c) r wi top := by
  refine ⟨fun i hi => ?_, fun i h1 h2 h3 => ?_, fun i hi => ?_⟩
  · unfold upd; rw [if_neg (by omega)]; exact h.old i hi
  · unfold upd
    by_cases he : i = wi
    · rw [if_pos he]; exact hc
    · rw [if_neg he]; exact h.new i (by omega) h2 h3
  · unfold upd
    by_cases he : i = wi
    · rw [if_pos he]; omega
    · rw [if_neg he]; exact h.byte i hi
theorem LsSt.skip {f g : Nat → Nat} {r wi top : Nat} (h : LsSt f g r (wi + 1) top) (h8 : ¬ wi < 800) : LsSt f g r wi top :=
  ⟨h.old, fun i h1 h2 h3 => h.new i (by omega) h2 h3, h.byte⟩
theorem LsSt.less {f g : Nat → Nat} {r r' wi top : Nat} (h : LsSt f g r wi top) (hr : r' ≤ r) : LsSt f g r' wi top :=
  ⟨fun i hi => h.old i (by omega), h.new, h.byte⟩
set_option maxRecDepth 100000 in
set_option maxHeartbeats 4000000 in
theorem lshift_any (B L p : Nat) (f : Nat → Nat) (nd k : Nat) (dp : Int) (w : World) (hG : Glob B w) (h : Dc w p f nd dp) (hok : DcOk f nd) (hn : 0 < nd) (hL : L ≤ p) (hk1 : 1 ≤ k) (hk : k ≤ 60) (hd0 : -1000000 ≤ dp) (hd1 : dp ≤ 1000000) :
    Calls Tryz.prog 128 #[.pointer (some ⟨p, 0, none⟩), .int .u64 k] w fun e w' => e = .returned (.tuple #[]) ∧ (∃ (f' : Nat → Nat) (nd' r : Nat), Dc w' p f' nd' (dp + r) ∧ DcOk f' nd' ∧ 0 < nd' ∧ r ≤ 20 ∧ (r = 0 → f 0 < f' 0)) ∧ Below L w w' := by
  have C := cheat_ok k hk1 hk
  obtain ⟨cb, co, hcb, hch0, hch⟩ := hG.ch
  obtain ⟨hch1, hch2⟩ := hch k (by omega)
  clear hch hG
  obtain ⟨D, hD⟩ : ∃ D, cheatDelta k = D := ⟨_, rfl⟩
  have hD1 := C.one
  have hD2 := C.few
  rw [hD] at hD1 hD2 hch1
  have hle := hok.le
  have hc := h.cnd
  have hsz : (⟨(cheatCut k).toArray⟩ : ByteArray).size ≤ 1000 := by rw [cheat_size]; have := C.sum; omega
  obtain ⟨K, hK⟩ : ∃ K, 2 ^ k = K := ⟨_, rfl⟩
  have hKi : ((2 : Int) ^ k) = (K : Int) := by rw [← hK]; simp
  have hK2 : 2 ≤ K := by rw [← hK]; exact Nat.le_trans (by decide : 2 ≤ 2 ^ 1) (Nat.pow_le_pow_right (by decide) hk1)
  have hK60 : K ≤ 1152921504606846976 := by rw [← hK]; exact Nat.pow_le_pow_right (by decide) hk
  replace C := hide C
  replace hok := hide hok
  replace h := hide h
  have hk61 : (k : Int) < 61 := by omega
  have hal : Tryz.prog.arrayLen 177 = 800 := by kernel_rfl
  have hsl : ∀ W, (Instr.sliceAt 177 (.pointer (some ⟨p, 0, none⟩)) (some (.int .i64 0)) (some (.int .i64 nd)) none).run Tryz.prog W = .ok (.slice (some ⟨p, 0, none⟩) nd 800) W := fun W => by
    rw [run_sliceAt_array_lh W 177 ⟨p, 0, none⟩ (by kernel_rfl) .i64 .i64 0 (nd : Int) (by omega) (by omega) (by rw [hal]; omega)]
    rw [hal]
    go_simp
  go_enter Tryz.func128, Tryz.ntmps128
  go_upto_region 1 with (fail)
  go_cut [30] (fun s30 w' => (∃ v, s30 = v ∧ PlRes f ⟨(cheatCut k).toArray⟩ nd v) ∧ ∃ n, w' = w.drewN n)
  case first =>
    go_region_law (first
      | (go_simp; go_at_call 151; refine (plt_any p 800 f nd dp ⟨(cheatCut k).toArray⟩ _ (h.out.drewN 1) hok.out hsz (by rw [cheat_size]; exact C.out.pos) (by rw [cheat_size, cheat_gS]; exact C.out.dig) (by rw [cheat_size, cheat_gS]; exact C.out.last)).mono ?_; rintro e w2 ⟨⟨v, rfl, hres⟩, n2, rfl⟩))
    all_goals (go_wp2; go_meet; case rel => exact ⟨⟨v, rfl, hres⟩, _, rfl⟩)
  case rest =>
  obtain ⟨⟨_, rfl, b, rfl, hless⟩, n1, rfl⟩ := hcut
  rw [cheat_size, cheat_gS] at hless
  obtain ⟨d, hd⟩ : ∃ d, (if b then D - 1 else D) = d := ⟨_, rfl⟩
  have hdD : d ≤ 19 := by cases b <;> simp at hd <;> omega
  go_upto_if 30 with (fail)
  go_cut [4] (fun s4 w' => s4 = .int .i64 d ∧ w' = w.drewN n1)
  case first =>
    cases b with
    | true =>
      simp at hd
      have hdi : (D : Int) - 1 = d := by omega
      go_wp2
      go_meet; case rel => exact ⟨rfl, rfl⟩
    | false =>
      simp at hd
      have hdi : D = d := by omega
      go_wp2
      go_meet; case rel => exact ⟨by rw [hdi], rfl⟩
  case rest =>
  obtain ⟨rfl, rfl⟩ := hcut
  clear hch1 hch2 hch0 hal hsl
  have hls0 : Hid (LsSt f f nd (nd + d) (nd + d)) := hide ⟨fun _ _ => rfl, fun i h1 h2 => by omega, hok.out.byte⟩
  have hld0 : Hid (LsD0 f f nd 0 0 K) := hide ⟨fun h => absurd h (by decide)⟩
  go_upto_block 0 with (fail)
  go_cut [5, 6, 7] (fun _ s6 s7 wq => ∃ (g : Nat → Nat), s6 = .int .i64 d ∧ s7 = .int .u64 ((dvf f nd * K / 10 ^ nd : Nat) : Int) ∧ Hid (Dc wq p g nd dp) ∧ Hid (LsSt f g 0 d (nd + d)) ∧ Hid (d = 0 → LsD0 f g nd nd (dvf f nd * K / 10 ^ nd) K) ∧ Hid (Below L w wq))
  case first =>
    go_wp2
    go_loopw [5, 6, 7] (fun s5 s6 s7 wq => ∃ (i wi n : Nat) (g : Nat → Nat), s5 = .int .i64 ((i : Int) - 1) ∧ s6 = .int .i64 wi ∧ s7 = .int .u64 n ∧ i ≤ nd ∧ Hid (wi = i + d) ∧ n < K ∧ Hid (n = dsf f nd (nd - i) * K / 10 ^ (nd - i)) ∧ Hid (Dc wq p g nd dp) ∧ Hid (LsSt f g i wi (nd + d)) ∧ Hid (d = 0 → LsD0 f g nd (nd - i) n K) ∧ Hid (Below L w wq)) (fun s5 _ _ _ => (intOf s5 + 1).toNat)
    case atStart => exact ⟨nd, nd + d, 0, f, rfl, rfl, rfl, by omega, hide rfl, by omega, hide (by simp [dsf]), hide (h.out.drewN _), hls0, hide (fun _ => by rw [Nat.sub_self]; exact hld0.out), hide (below_drewN (Below.refl _ _) _)⟩
    case round =>
      obtain ⟨i, wi, n, g, rfl, rfl, rfl, h1, h2, h3, hn, hD, hR, hZ, hb⟩ := hrel
      by_cases hlt : 0 < i
      · obtain ⟨j, rfl⟩ : ∃ j, i = j + 1 := ⟨i - 1, by omega⟩
        obtain ⟨v, rfl⟩ : ∃ v, wi = v + 1 := ⟨wi - 1, by have := h2.out; omega⟩
        have hgj := hR.out.old j (by omega)
        have he := hD.out.dig j (by omega)
        rw [hgj] at he
        have he2 : wr.cell? ⟨p, 0 + j, none⟩ = some (.int .u8 (f j)) := by rw [Nat.zero_add]; exact he
        have hfj := hok.out.dig j (by omega)
        obtain ⟨c, hc0⟩ : ∃ c, (f j - 48) * K = c := ⟨_, rfl⟩
        have hc9 : c ≤ 9 * K := by rw [← hc0]; exact Nat.mul_le_mul_right _ (by omega)
        have hw1 : IntKind.u64.wrap (((f j : Int) - 48) * (K : Int)) = (c : Int) := by
          have : ((f j : Int) - 48) * (K : Int) = (c : Int) := by
            rw [← hc0, Int.natCast_mul, Int.natCast_sub hfj.1]; rfl
          rw [this, IntKind.wrap_u64]; omega
        have hcar := carry_step (f j - 48) (dsf f nd (nd - (j + 1))) (nd - (j + 1)) K
        rw [← hn.out, hc0] at hcar
        have hdsf : dsf f nd (nd - j) = (f j - 48) * 10 ^ (nd - (j + 1)) + dsf f nd (nd - (j + 1)) := by
          conv => lhs; rw [show nd - j = nd - (j + 1) + 1 by omega]
          show (f (nd - (nd - (j + 1) + 1)) - 48) * _ + _ = _
          rw [show nd - (nd - (j + 1) + 1) = j by omega]
        rw [← hdsf, show nd - (j + 1) + 1 = nd - j by omega] at hcar
        have hcar2 := hide hcar
        clear hcar hdsf
        have hv9 : v ≤ 900 := by have := h2.out; omega
        have hvj := hide h2.out
        have hz0 : Hid (d = 0 → LsD0 f (upd g v (48 + (n + c) % 10)) nd (nd - j) ((n + c) / 10) K) := hide fun h0 => ⟨fun _ => ⟨n + c, by
          have hvj := hvj.out
          rw [show nd - (nd - j) = j by omega, show v = j by omega]; unfold upd; rw [if_pos rfl], rfl, by
          rw [show nd - (nd - j) = j by omega, hc0]; omega⟩⟩
        by_cases hv8 : v < 800
        · have hz1 := hD.out.fz v
          have hz2 : wr.frozen? ⟨p, 0 + v, none⟩ = false := hD.out.fz _
          have hv := hD.out.dig v hv8
          have hv2 : wr.cell? ⟨p, 0 + v, none⟩ = some (.int .u8 (g v)) := by rw [Nat.zero_add]; exact hv
          go_wp2
          refine ⟨⟨j, v, (n + c) / 10, upd g v (48 + (n + c) % 10), rfl, rfl, vint' (by omega), by omega, hide (by have := hvj.out; omega), by omega, hide hcar2.out, hide ?_, hide ?_, hz0, hide (hb.out.setCell hL _)⟩, by simp [intOf] <;> omega⟩
          · exact hD.out.setDig v _ hv8 _ (by omega)
          · exact (hR.out.less (by omega)).put (by have := hvj.out; omega) (by omega)
        · obtain ⟨tb, ht⟩ := hD.out.ctr
          have hz := hD.out.fz 803
          have hz0 : Hid (d = 0 → LsD0 f g nd (nd - j) ((n + c) / 10) K) := hide fun h0 => by have := hvj.out; omega
          have hR2 : Hid (LsSt f g j v (nd + d)) := hide ((hR.out.less (by omega)).skip hv8)
          by_cases hr0 : (n + c) % 10 = 0
          · have hr1 : (n : Int) + c - 10 * (((n : Int) + c) / 10) = 0 := by omega
            go_wp2
            exact ⟨⟨j, v, (n + c) / 10, g, rfl, rfl, vint' (by omega), by omega, hide (by have := hvj.out; omega), by omega, hide hcar2.out, hD, hR2, hz0, hb⟩, by simp [intOf] <;> omega⟩
          · have hr1 : ((n : Int) + c - 10 * (((n : Int) + c) / 10) == 0) = false := by simp; omega
            go_wp2
            exact ⟨⟨j, v, (n + c) / 10, g, rfl, rfl, vint' (by omega), by omega, hide (by have := hvj.out; omega), by omega, hide hcar2.out, hide (hD.out.setB 803 (.inr rfl) true), hR2, hz0, hide (hb.out.setCell hL _)⟩, by simp [intOf] <;> omega⟩
      · obtain rfl : i = 0 := by omega
        have hwi : wi = d := by have := h2.out; omega
        have hn2 := hn.out
        rw [Nat.sub_zero, dsf_all] at hn2
        subst hwi
        replace hn2 := hide hn2
        go_wp2
        go_meet; case rel => exact ⟨g, rfl, vint' (by have := hn2.out; omega), hD, hide (by have := hR.out; exact this), hide (fun h0 => by have := hZ.out h0; rw [Nat.sub_zero, hn2.out] at this; exact this), hb⟩
  case rest =>
  obtain ⟨g0, rfl, rfl, hD0, hR0, hZ0, hb0⟩ := hcut
  have hcl : Hid (dvf f nd * K / 10 ^ nd < 10 ^ d ∧ (1 ≤ d → 10 ^ (d - 1) ≤ dvf f nd * K / 10 ^ nd)) := hide (by
    rw [← hK]
    have hv0 : 10 ^ (nd - 1) ≤ dvf f nd := by
      have h1 := dvf_low f 1 (nd - 1)
      rw [show 1 + (nd - 1) = nd by omega] at h1
      have h2 := hok.out.dig 0 hn
      have h3 := hok.out.first hn
      have h4 : 1 ≤ dvf f 1 := by simp only [dvf]; omega
      exact Nat.le_trans (by have h5 := Nat.mul_le_mul_right (10 ^ (nd - 1)) h4; omega) h1
    have hv1 : dvf f nd < 10 ^ nd := by rw [← dsf_all]; exact dsf_lt hok.out.dig nd (Nat.le_refl _)
    have hl := hless
    unfold Less at hl
    rw [C.out.five] at hl
    exact carry_law C.out hn hv0 hv1 hl (by rw [hD, hd]))
  have hnK : dvf f nd * K / 10 ^ nd < K := by rw [← dsf_all]; exact dsf_carry hok.out.dig (Nat.le_refl _) (by omega)
  obtain ⟨nF, hnF⟩ : ∃ nF, dvf f nd * K / 10 ^ nd = nF := ⟨_, rfl⟩
  rw [hnF] at hcl hZ0 hnK ⊢
  have hg0 : Hid (d = 0 → 48 < g0 0 ∧ (d = 0 → f 0 < g0 0)) := hide fun h0 => by
    obtain ⟨q, e1, e2, e3⟩ := (hZ0.out h0).q hn
    have h1 := hcl.out.1
    rw [h0] at h1
    have h2 : q / 10 = 0 := by rw [← e2]; simpa using h1
    have h3 : q < 10 := by omega
    rw [Nat.sub_self] at e1 e3
    have h4 := hok.out.dig 0 hn
    have h5 := hok.out.first hn
    have h6 : (f 0 - 48) * 2 ≤ (f 0 - 48) * K := Nat.mul_le_mul_left _ hK2
    have h7 : q % 10 = q := Nat.mod_eq_of_lt h3
    rw [h7] at e1
    omega
  go_upto_block 2 with (fail)
  go_cut [6, 7] (fun _ _ wq => ∃ (g : Nat → Nat), Hid (Dc wq p g nd dp) ∧ Hid (LsSt f g 0 0 (nd + d)) ∧ Hid (48 < g 0 ∧ (d = 0 → f 0 < g 0)) ∧ Hid (Below L w wq))
  case first =>
    go_wp2
    go_loopw [6, 7] (fun s6 s7 wq => ∃ (wi n : Nat) (g : Nat → Nat), s6 = .int .i64 wi ∧ s7 = .int .u64 n ∧ wi ≤ d ∧ n < K ∧ Hid (n < 10 ^ wi ∧ (1 ≤ wi → 10 ^ (wi - 1) ≤ n)) ∧ Hid (Dc wq p g nd dp) ∧ Hid (LsSt f g 0 wi (nd + d)) ∧ Hid (wi = 0 → 48 < g 0 ∧ (d = 0 → f 0 < g 0)) ∧ Hid (Below L w wq)) (fun s6 _ _ => (intOf s6).toNat)
    case atStart => exact ⟨d, nF, g0, rfl, rfl, by omega, hnK, hcl, hD0, hR0, hg0, hb0⟩
    case round =>
      obtain ⟨wi, n, g, rfl, rfl, h1, h2, hn2, hDq, hR, hg, hb⟩ := hrel
      by_cases hz : n = 0
      · subst hz
        have hwi : wi = 0 := by
          rcases Nat.eq_zero_or_pos wi with h | h
          · exact h
          · have h3 := hn2.out.2 h
            have := Nat.pow_pos (n := wi - 1) (show 0 < 10 by decide)
            omega
        subst hwi
        have hg1 := hide (hg.out rfl)
        go_wp2
        go_meet; case rel => exact ⟨g, hDq, hR, hg1, hb⟩
      · obtain ⟨v, rfl⟩ : ∃ v, wi = v + 1 := ⟨wi - 1, by
          rcases Nat.eq_zero_or_pos wi with h | h
          · have h3 := hn2.out.1
            rw [h] at h3
            simp at h3
            omega
          · omega⟩
        have hp : Hid (n / 10 < 10 ^ v ∧ (1 ≤ v → 10 ^ (v - 1) ≤ n / 10)) := hide ⟨by
          have h3 := hn2.out.1
          rw [Nat.pow_succ] at h3
          omega, fun h4 => by
          have h3 := hn2.out.2 (by omega)
          rw [show v + 1 - 1 = v - 1 + 1 by omega, Nat.pow_succ] at h3
          omega⟩
        have hg2 : Hid (v = 0 → 48 < upd g v (48 + n % 10) 0 ∧ (d = 0 → f 0 < upd g v (48 + n % 10) 0)) := hide fun h0 => by
          subst h0
          have h3 := hn2.out.1
          unfold upd
          rw [if_pos rfl]
          simp at h3
          exact ⟨by omega, fun h4 => by omega⟩
        have hz1 := hDq.out.fz v
        have hz2 : wr.frozen? ⟨p, 0 + v, none⟩ = false := hDq.out.fz _
        have hv := hDq.out.dig v (by omega)
        have hv2 : wr.cell? ⟨p, 0 + v, none⟩ = some (.int .u8 (g v)) := by rw [Nat.zero_add]; exact hv
        go_wp2
        refine ⟨⟨v, n / 10, upd g v (48 + n % 10), rfl, vint' (by omega), by omega, by omega, hp, hide ?_, hide ?_, hg2, hide (hb.out.setCell hL _)⟩, by simp [intOf] <;> omega⟩
        · exact hDq.out.setDig v _ (by omega) _ (by omega)
        · exact hR.out.put (by omega) (by omega)
  case rest =>
  obtain ⟨g, hDf, hRf, hgf, hbf⟩ := hcut
  have hcn := hDf.out.cnd
  have hcd := hDf.out.cdp
  have hz8 := hDf.out.fz 800
  have hz9 := hDf.out.fz 801
  clear hD0 hR0 hZ0 hg0 hb0 hls0 hld0 hcl
  by_cases h8 : 800 ≤ nd + d
  · have hok2 : Hid (DcOk g 800) := hide ⟨by omega, hRf.out.byte, fun i hi => hRf.out.new i (by omega) (by omega) hi, fun _ => by have := hgf.out.1; omega⟩
    have hD2 := hide (((hDf.out.setNd (nd + d) ((nd : Int) + d) (by omega)).setNd 800 800 rfl).setDp (dp + d) (dp + d) rfl)
    have hb2 : Hid (Below L w (((wc.setCell ⟨p, 800, none⟩ (.int .i64 ((nd : Int) + d))).setCell ⟨p, 800, none⟩ (.int .i64 800)).setCell ⟨p, 801, none⟩ (.int .i64 (dp + d)))) := hide (((hbf.out.setCell hL _).setCell hL _).setCell hL _)
    go_wp2_with (first
      | (go_at_call 127; refine (dtrim_any L p g 800 _ _ hD2.out hok2.out (by omega) hL).mono ?_; rintro e w3 ⟨rfl, ⟨n3, j1, j2, hD3⟩, hb3⟩))
    go_end0
    exact ⟨rfl, ⟨g, n3, d, hD3, ⟨by omega, hok2.out.byte, fun i hi => hok2.out.dig i (by omega), fun _ => by have := hgf.out.1; omega⟩, j1, by omega, fun h0 => hgf.out.2 h0⟩, hb2.out.trans hb3⟩
  · have hok2 : Hid (DcOk g (nd + d)) := hide ⟨by omega, hRf.out.byte, fun i hi => hRf.out.new i (by omega) (by omega) (by omega), fun _ => by have := hgf.out.1; omega⟩
    have hD2 := hide ((hDf.out.setNd (nd + d) ((nd : Int) + d) (by omega)).setDp (dp + d) (dp + d) rfl)
    have hb2 : Hid (Below L w ((wc.setCell ⟨p, 800, none⟩ (.int .i64 ((nd : Int) + d))).setCell ⟨p, 801, none⟩ (.int .i64 (dp + d)))) := hide ((hbf.out.setCell hL _).setCell hL _)
    go_wp2_with (first
      | (go_at_call 127; refine (dtrim_any L p g (nd + d) _ _ hD2.out hok2.out (by omega) hL).mono ?_; rintro e w3 ⟨rfl, ⟨n3, j1, j2, hD3⟩, hb3⟩))
    go_end0
    exact ⟨rfl, ⟨g, n3, d, hD3, ⟨by omega, hok2.out.byte, fun i hi => hok2.out.dig i (by omega), fun _ => by have := hgf.out.1; omega⟩, j1, by omega, fun h0 => hgf.out.2 h0⟩, hb2.out.trans hb3⟩
end Go.Proofs.YtgmbjdoifkjdhaaGreatDoor
end
section
namespace Go.Proofs.YtgmbjdoifkjdhaaGreatDoor
open Go.RowKit

set_option maxRecDepth 100000 in
set_option maxHeartbeats 1000000 in
theorem shl_one (B L p : Nat) (f : Nat → Nat) (nd k : Nat) (dp : Int) (w : World) (hG : Glob B w) (h : Dc w p f nd dp) (hok : DcOk f nd) (hn : 0 < nd) (hL : L ≤ p) (hk1 : 1 ≤ k) (hk : k ≤ 60) (hd0 : -1000000 ≤ dp) (hd1 : dp ≤ 1000000) :
    Calls Tryz.prog 103 #[.pointer (some ⟨p, 0, none⟩), .int .i64 k] w fun e w' => e = .returned (.tuple #[]) ∧ (∃ (f' : Nat → Nat) (nd' r : Nat), Dc w' p f' nd' (dp + r) ∧ DcOk f' nd' ∧ 0 < nd' ∧ r ≤ 20 ∧ (r = 0 → f 0 < f' 0)) ∧ Below L w w' := by
  have hc := h.cnd
  replace hok := hide hok
  replace h := hide h
  have e1 : ((nd : Int) == 0) = false := by simp; omega
  have e2 : ¬ (k : Int) < 0 := by omega
  have e3 : (0 : Int) < (k : Int) := by omega
  have e4 : 0 < k := by omega
  go_enter Tryz.func103, Tryz.ntmps103
  go_wp2
  go_loopw [1] (fun s1 wr => s1 = .int .i64 k ∧ w = wr) (fun _ _ => 0)
  case atStart => exact ⟨rfl, rfl⟩
  case round =>
    obtain ⟨rfl, rfl⟩ := hrel
    go_wp2_with (first
      | (go_at_call 128; refine (lshift_any B L p f nd k dp _ hG h.out hok.out hn hL hk1 hk hd0 hd1).mono ?_; rintro e w2 ⟨rfl, ⟨f2, nd2, r, j1, j2, j3, j4, j5⟩, hb⟩))
    go_end0
    exact ⟨rfl, ⟨f2, nd2, r, j1, j2, j3, j4, j5⟩, hb⟩
/-- To the right, by any distance. -/
structure ShrOut (L p : Nat) (f : Nat → Nat) (dp : Int) (k : Nat) (w w' : World) : Prop where
  dc : ∃ (f' : Nat → Nat) (nd' r : Nat), Dc w' p f' nd' (dp - r) ∧ DcOk f' nd' ∧ 0 < nd' ∧ r ≤ k + 20 ∧ (r = 0 → k ≤ 60 → f' 0 < f 0)
  below : Below L w w'
set_option maxRecDepth 100000 in
set_option maxHeartbeats 1000000 in
theorem shr_any (L p : Nat) (f : Nat → Nat) (nd k : Nat) (dp : Int) (w : World) (h : Dc w p f nd dp) (hok : DcOk f nd) (hn : 0 < nd) (hL : L ≤ p) (hk1 : 1 ≤ k) (hk : k ≤ 300000) (hd0 : -300000 ≤ dp) (hd1 : dp ≤ 1000000) :
    Calls Tryz.prog 103 #[.pointer (some ⟨p, 0, none⟩), .int .i64 (-(k : Int))] w fun e w' => e = .returned (.tuple #[]) ∧ ShrOut L p f dp k w w' := by
  have hc := h.cnd
  replace hok := hide hok
  replace h := hide h
  have e1 : ((nd : Int) == 0) = false := by simp; omega
  have e2 : ¬ (k : Int) < 0 := by omega
  have e3 : (0 : Int) < (k : Int) := by omega
  have e4 : 0 < k := by omega
  go_enter Tryz.func103, Tryz.ntmps103
  go_wp2
  go_loopw [1] (fun s1 wr => ∃ (j : Nat), s1 = .int .i64 (-(j : Int)) ∧ 1 ≤ j ∧ j ≤ k ∧ Hid (∃ (f' : Nat → Nat) (nd' r : Nat), Dc wr p f' nd' (dp - r) ∧ DcOk f' nd' ∧ 0 < nd' ∧ r ≤ k - j ∧ (k ≤ 60 → f' = f ∧ r = 0)) ∧ Hid (Below L w wr)) (fun s1 _ => (-(intOf s1)).toNat)
  case atStart => exact ⟨k, rfl, hk1, Nat.le_refl _, hide ⟨f, nd, 0, by simpa using h.out, hok.out, hn, by omega, fun _ => ⟨rfl, rfl⟩⟩, hide (Below.refl _ _)⟩
  case round =>
    obtain ⟨j, rfl, h1, h2, hd, hb⟩ := hrel
    obtain ⟨f1, nd1, r1, g1, g2, g3, g4, g5⟩ := hd.out
    by_cases hj : 60 < j
    · have hlt : -(j : Int) < -60 := by omega
      go_wp2_with (first
        | (go_at_call 129; refine (rshift_any L p f1 nd1 60 (dp - r1) _ g1 g2 g3 hL (by omega) (by omega) (by omega) (by omega)).mono ?_; rintro e w2 ⟨rfl, ⟨f2, nd2, r, j1, j2, j3, j4, j5⟩, hb2⟩))
      refine ⟨⟨j - 60, vint' (by omega), by omega, by omega, hide ⟨f2, nd2, r1 + r, ?_, j2, j3, by omega, fun h60 => by omega⟩, hide (hb.out.trans hb2)⟩, by simp [intOf]; omega⟩
      rw [show dp - ((r1 + r : Nat) : Int) = dp - r1 - r by omega]; exact j1
    · have hlt : ¬ -(j : Int) < -60 := by omega
      go_wp2_with (first
        | (go_at_call 129; refine (rshift_any L p f1 nd1 j (dp - r1) _ g1 g2 g3 hL h1 (by omega) (by omega) (by omega)).mono ?_; rintro e w2 ⟨rfl, ⟨f2, nd2, r, j1, j2, j3, j4, j5⟩, hb2⟩))
      go_end0
      refine ⟨rfl, ⟨f2, nd2, r1 + r, ?_, j2, j3, by omega, fun h0 h60 => ?_⟩, hb.out.trans hb2⟩
      · rw [show dp - ((r1 + r : Nat) : Int) = dp - r1 - r by omega]; exact j1
      · obtain ⟨rfl, _⟩ := g5 h60
        exact j5 (by omega)
end Go.Proofs.YtgmbjdoifkjdhaaGreatDoor
end
