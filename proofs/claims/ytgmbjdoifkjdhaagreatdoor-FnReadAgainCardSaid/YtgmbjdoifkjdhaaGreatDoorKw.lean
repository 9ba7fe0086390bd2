/- The slow road's decimal in memory; trim, rounding. Rounding of the slow road's decimal. rightShift. The left shift's table: what the prefix tells of the carry. prefixIsLessThan. -/
import Derived.Test.YtgmbjdoifkjdhaaGreatDoorKd
import Derived.Deep.DeepCutAuto
import Derived.Deep.CutBlock
import Derived.Deep.LoopGhost
section
namespace Go.Proofs.YtgmbjdoifkjdhaaGreatDoor
open Go.RowKit

/-- A decimal at block p: its digits (as bytes), how many of them count, where the point is. -/
def Dc (w : World) (p : Nat) (f : Nat → Nat) (nd : Nat) (dp : Int) : Prop :=
  ∃ cs, Blk w p 179 cs ∧ cs.size = 804 ∧ (∀ i, i < 800 → cs[i]? = some (.int .u8 (f i))) ∧ cs[800]? = some (.int .i64 nd) ∧ cs[801]? = some (.int .i64 dp) ∧ (∃ b, cs[802]? = some (.bool b)) ∧ ∃ b, cs[803]? = some (.bool b)
def upd (f : Nat → Nat) (i c : Nat) : Nat → Nat := fun j => if j = i then c else f j
section
variable {w : World} {p : Nat} {f : Nat → Nat} {nd : Nat} {dp : Int}
theorem Dc.dig (h : Dc w p f nd dp) (i : Nat) (hi : i < 800) : w.cell? ⟨p, i, none⟩ = some (.int .u8 (f i)) := by
  obtain ⟨cs, hb, _, h1, _⟩ := h; rw [hb.cell]; exact h1 i hi
theorem Dc.cnd (h : Dc w p f nd dp) : w.cell? ⟨p, 800, none⟩ = some (.int .i64 nd) := by
  obtain ⟨cs, hb, _, _, h1, _⟩ := h; rw [hb.cell]; exact h1
theorem Dc.cdp (h : Dc w p f nd dp) : w.cell? ⟨p, 801, none⟩ = some (.int .i64 dp) := by
  obtain ⟨cs, hb, _, _, _, h1, _⟩ := h; rw [hb.cell]; exact h1
theorem Dc.cneg (h : Dc w p f nd dp) : ∃ b, w.cell? ⟨p, 802, none⟩ = some (.bool b) := by
  obtain ⟨cs, hb, _, _, _, _, ⟨b, h1⟩, _⟩ := h; exact ⟨b, by rw [hb.cell]; exact h1⟩
theorem Dc.ctr (h : Dc w p f nd dp) : ∃ b, w.cell? ⟨p, 803, none⟩ = some (.bool b) := by
  obtain ⟨cs, hb, _, _, _, _, _, b, h1⟩ := h; exact ⟨b, by rw [hb.cell]; exact h1⟩
theorem Dc.fz (h : Dc w p f nd dp) (i : Nat) : w.frozen? ⟨p, i, none⟩ = false := by
  obtain ⟨cs, hb, _⟩ := h; exact hb.frozen i
theorem Dc.lt (h : Dc w p f nd dp) : p < w.heap.size := by obtain ⟨cs, hb, _⟩ := h; exact hb.lt
theorem Dc.drewN (h : Dc w p f nd dp) (n : Nat) : Dc (w.drewN n) p f nd dp := h
theorem Dc.ext {w' : World} (h : Dc w p f nd dp) (hb : Below w.heap.size w w') : Dc w' p f nd dp := by
  obtain ⟨cs, hB, r⟩ := h; exact ⟨cs, hB.below hb hB.lt, r⟩
theorem Dc.setDig (h : Dc w p f nd dp) (i c : Nat) (hi : i < 800) (x : Int) (hx : x = c) : Dc (w.setCell ⟨p, i, none⟩ (.int .u8 x)) p (upd f i c) nd dp := by
  obtain ⟨cs, hb, h0, h1, h2, h3, h4, h5⟩ := h
  subst hx
  refine ⟨_, hb.set i _, by simp [h0], fun j hj => ?_, ?_, ?_, ?_, ?_⟩
  · rw [Array.getElem?_setIfInBounds]
    unfold upd
    by_cases hij : i = j
    · subst hij; simp [h0]; omega
    · rw [if_neg hij, if_neg (fun he => hij he.symm)]; exact h1 j hj
  · rw [Array.getElem?_setIfInBounds, if_neg (by omega)]; exact h2
  · rw [Array.getElem?_setIfInBounds, if_neg (by omega)]; exact h3
  · obtain ⟨b, h4⟩ := h4; exact ⟨b, by rw [Array.getElem?_setIfInBounds, if_neg (by omega)]; exact h4⟩
  · obtain ⟨b, h5⟩ := h5; exact ⟨b, by rw [Array.getElem?_setIfInBounds, if_neg (by omega)]; exact h5⟩
theorem Dc.setNd (h : Dc w p f nd dp) (n : Nat) (x : Int) (hx : x = n) : Dc (w.setCell ⟨p, 800, none⟩ (.int .i64 x)) p f n dp := by
  obtain ⟨cs, hb, h0, h1, h2, h3, h4, h5⟩ := h
  subst hx
  refine ⟨_, hb.set 800 _, by simp [h0], fun j hj => ?_, ?_, ?_, ?_, ?_⟩
  · rw [Array.getElem?_setIfInBounds, if_neg (by omega)]; exact h1 j hj
  · rw [Array.getElem?_setIfInBounds, if_pos rfl, if_pos (by omega)]
  · rw [Array.getElem?_setIfInBounds, if_neg (by omega)]; exact h3
  · obtain ⟨b, h4⟩ := h4; exact ⟨b, by rw [Array.getElem?_setIfInBounds, if_neg (by omega)]; exact h4⟩
  · obtain ⟨b, h5⟩ := h5; exact ⟨b, by rw [Array.getElem?_setIfInBounds, if_neg (by omega)]; exact h5⟩
theorem Dc.setDp (h : Dc w p f nd dp) (d x : Int) (hx : x = d) : Dc (w.setCell ⟨p, 801, none⟩ (.int .i64 x)) p f nd d := by
  obtain ⟨cs, hb, h0, h1, h2, h3, h4, h5⟩ := h
  subst hx
  refine ⟨_, hb.set 801 _, by simp [h0], fun j hj => ?_, ?_, ?_, ?_, ?_⟩
  · rw [Array.getElem?_setIfInBounds, if_neg (by omega)]; exact h1 j hj
  · rw [Array.getElem?_setIfInBounds, if_neg (by omega)]; exact h2
  · rw [Array.getElem?_setIfInBounds, if_pos rfl, if_pos (by omega)]
  · obtain ⟨b, h4⟩ := h4; exact ⟨b, by rw [Array.getElem?_setIfInBounds, if_neg (by omega)]; exact h4⟩
  · obtain ⟨b, h5⟩ := h5; exact ⟨b, by rw [Array.getElem?_setIfInBounds, if_neg (by omega)]; exact h5⟩
theorem Dc.setB (h : Dc w p f nd dp) (i : Nat) (hi : i = 802 ∨ i = 803) (b : Bool) : Dc (w.setCell ⟨p, i, none⟩ (.bool b)) p f nd dp := by
  obtain ⟨cs, hb, h0, h1, h2, h3, h4, h5⟩ := h
  refine ⟨_, hb.set i _, by simp [h0], fun j hj => ?_, ?_, ?_, ?_, ?_⟩
  · rw [Array.getElem?_setIfInBounds, if_neg (by omega)]; exact h1 j hj
  · rw [Array.getElem?_setIfInBounds, if_neg (by omega)]; exact h2
  · rw [Array.getElem?_setIfInBounds, if_neg (by omega)]; exact h3
  · obtain ⟨b4, h4⟩ := h4
    rcases hi with rfl | rfl
    · exact ⟨b, by rw [Array.getElem?_setIfInBounds, if_pos rfl, if_pos (by omega)]⟩
    · exact ⟨b4, by rw [Array.getElem?_setIfInBounds, if_neg (by omega)]; exact h4⟩
  · obtain ⟨b5, h5⟩ := h5
    rcases hi with rfl | rfl
    · exact ⟨b5, by rw [Array.getElem?_setIfInBounds, if_neg (by omega)]; exact h5⟩
    · exact ⟨b, by rw [Array.getElem?_setIfInBounds, if_pos rfl, if_pos (by omega)]⟩
end
/-- How many digits count. -/
def ndOf (p : Nat) (w : World) : Nat := match w.cell? ⟨p, 800, none⟩ with
  | some (.int _ n) => n.toNat
  | _ => 0
theorem Dc.ndOf {w : World} {p : Nat} {f : Nat → Nat} {nd : Nat} {dp : Int} (h : Dc w p f nd dp) : ndOf p w = nd := by
  unfold YtgmbjdoifkjdhaaGreatDoor.ndOf; rw [h.cnd]; simp
/-- Digits, no zero first. -/
structure DcOk (f : Nat → Nat) (nd : Nat) : Prop where
  le : nd ≤ 800
  byte : ∀ i, i < 800 → f i < 256
  dig : ∀ i, i < nd → 48 ≤ f i ∧ f i ≤ 57
  first : 0 < nd → f 0 ≠ 48

set_option maxRecDepth 100000 in
set_option maxHeartbeats 1000000 in
theorem dtrim_any (L p : Nat) (f : Nat → Nat) (nd : Nat) (dp : Int) (w : World) (h : Dc w p f nd dp) (hok : DcOk f nd) (hn : 0 < nd) (hL : L ≤ p) :
    Calls Tryz.prog 127 #[.pointer (some ⟨p, 0, none⟩)] w fun e w' => e = .returned (.tuple #[]) ∧ (∃ n, 0 < n ∧ n ≤ nd ∧ Dc w' p f n dp) ∧ Below L w w' := by
  have hle := hok.le
  have hf0 := hok.first hn
  replace hok := hide hok
  go_enter Tryz.func127, Tryz.ntmps127
  go_wp2
  go_loopw [2] (fun _ wr => ∃ (n : Nat), 0 < n ∧ n ≤ nd ∧ Hid (Dc wr p f n dp) ∧ Hid (Below L w wr))
    (fun _ wr => ndOf p wr)
  case atStart => exact ⟨nd, hn, Nat.le_refl _, hide h, hide (Below.refl _ _)⟩
  case round =>
    obtain ⟨n, h1, h2, hD, hb⟩ := hrel
    have hc := hD.out.cnd
    have hz := hD.out.fz 800
    have hd := hD.out.dig (n - 1) (by omega)
    rw [show (n - 1 : Nat) = n - 1 from rfl] at hd
    have hcd : wr.cell? ⟨p, 0 + (n - 1), none⟩ = some (.int .u8 (f (n - 1))) := by rw [Nat.zero_add]; exact hd
    by_cases h48 : f (n - 1) = 48
    · have hn1 : n ≠ 1 := fun he => hf0 (by rw [he] at h48; exact h48)
      go_wp2
      go_quiet (fail)
      go_wp2
      have hD2 := (hD.out.drewN nq).setNd (n - 1) ((n : Int) - 1) (by omega)
      refine ⟨⟨n - 1, by omega, by omega, hide hD2, hide ((hb.out.trans (below_drewN (Below.refl _ _) nq)).setCell hL _)⟩, ?_⟩
      rw [hD2.ndOf, hD.out.ndOf]; omega
    · go_wp2
      go_quiet (fail)
      go_wp2
      go_end0
      exact ⟨rfl, ⟨n, h1, h2, hD.out.drewN nq⟩, hb.out.trans (below_drewN (Below.refl _ _) nq)⟩
end Go.Proofs.YtgmbjdoifkjdhaaGreatDoor
end
section
namespace Go.Proofs.YtgmbjdoifkjdhaaGreatDoor
open Go.RowKit

theorem ret_int' {k : IntKind} {a b : Int} (h : a = b) : Ending.returned (.int k a) = .returned (.int k b) := by rw [h]
def SomeB (v : Value) : Prop := ∃ b, v = .bool b
theorem vint' {k : IntKind} {a b : Int} (h : a = b) : Value.int k a = .int k b := by rw [h]
set_option maxRecDepth 100000 in
set_option maxHeartbeats 1000000 in
theorem sru_any (p : Nat) (f : Nat → Nat) (nd : Nat) (dp k : Int) (w : World) (h : Dc w p f nd dp) (hok : DcOk f nd) (hk0 : -1000000 ≤ k) (hk1 : k ≤ 1000000) :
    Calls Tryz.prog 130 #[.pointer (some ⟨p, 0, none⟩), .int .i64 k] w fun e w' => (∃ v, e = .returned v ∧ SomeB v) ∧ w = w' := by
  have hc := h.cnd
  obtain ⟨tb, ht⟩ := h.ctr
  have hle := hok.le
  by_cases hk : 0 ≤ k ∧ k < nd
  · obtain ⟨j, rfl⟩ := Int.eq_ofNat_of_zero_le hk.1
    have hj : j < nd := by omega
    have hd := h.dig j (by omega)
    have hd2 : w.cell? ⟨p, 0 + j, none⟩ = some (.int .u8 (f j)) := by rw [Nat.zero_add]; exact hd
    have hb := (hok.dig j hj)
    have hz := h.dig (j - 1) (by omega)
    have hz2 : w.cell? ⟨p, 0 + (j - 1), none⟩ = some (.int .u8 (f (j - 1))) := by rw [Nat.zero_add]; exact hz
    have hb2 : 0 < j → 48 ≤ f (j - 1) ∧ f (j - 1) ≤ 57 := fun _ => hok.dig (j - 1) (by omega)
    by_cases hj0 : 0 < j
    · have hb3 := hb2 hj0
      clear hb2
      cases tb
      all_goals (
        go_enter Tryz.func130, Tryz.ntmps130
        go_wp2
        all_goals (go_ret; exact ⟨⟨_, rfl, _, rfl⟩, rfl⟩))
    · obtain rfl : j = 0 := by omega
      cases tb
      all_goals (
        go_enter Tryz.func130, Tryz.ntmps130
        go_wp2
        all_goals (go_ret; exact ⟨⟨_, rfl, _, rfl⟩, rfl⟩))
  · by_cases hk2 : k < 0
    · go_enter Tryz.func130, Tryz.ntmps130
      go_wp2
      all_goals (go_ret; exact ⟨⟨_, rfl, _, rfl⟩, rfl⟩)
    · have hk3 : (nd : Int) ≤ k := by omega
      go_enter Tryz.func130, Tryz.ntmps130
      go_wp2
      all_goals (go_ret; exact ⟨⟨_, rfl, _, rfl⟩, rfl⟩)
set_option maxRecDepth 100000 in
set_option maxHeartbeats 1000000 in
theorem rint_any (p : Nat) (f : Nat → Nat) (nd : Nat) (dp : Int) (w : World) (h : Dc w p f nd dp) (hok : DcOk f nd) (hd0 : -1000000 ≤ dp) (hd1 : dp ≤ 1000000) :
    Calls Tryz.prog 157 #[.pointer (some ⟨p, 0, none⟩)] w fun e w' => (∃ m : Nat, e = .returned (.int .u64 m) ∧ m < 18446744073709551616) ∧ w = w' := by
  have hc := h.cnd
  have hp := h.cdp
  have hle := hok.le
  replace hok := hide hok
  replace h := hide h
  by_cases h20 : 20 < dp
  · go_enter Tryz.func157, Tryz.ntmps157
    go_wp2
    go_ret
    exact ⟨⟨18446744073709551615, rfl, by omega⟩, rfl⟩
  go_enter Tryz.func157, Tryz.ntmps157
  go_wp2
  go_loop [3, 4] (fun s3 s4 => ∃ (i x : Nat), s3 = .int .i64 i ∧ s4 = .int .u64 x ∧ x < 18446744073709551616 ∧ (i = 0 ∨ (i : Int) ≤ dp)) (fun s3 _ => (dp - intOf s3).toNat)
  case atStart => exact ⟨0, 0, rfl, rfl, by omega, .inl rfl⟩
  case round =>
    obtain ⟨i, x, rfl, rfl, h1, h2⟩ := hrel
    by_cases hlt : (i : Int) < dp ∧ i < nd
    · obtain ⟨hlt1, hlt2⟩ := hlt
      have hd := h.out.dig i (by omega)
      have hd2 : w.cell? ⟨p, 0 + i, none⟩ = some (.int .u8 (f i)) := by rw [Nat.zero_add]; exact hd
      have hb := hok.out.dig i hlt2
      go_wp2
      refine ⟨⟨i + 1, ((x * 10 % 18446744073709551616) + (f i - 48)) % 18446744073709551616, rfl, vint' ?_, Nat.mod_lt _ (by decide), .inr (by omega)⟩, by simp [intOf]; omega⟩
      rw [IntKind.wrap_u64, IntKind.wrap_u64]; omega
    · have hi : i ≤ 20 := by omega
      by_cases hlt1 : (i : Int) < dp
      · have hlt2 : (nd : Int) ≤ i := by omega
        go_wp2
        go_loop [3, 4] (fun s3 s4 => ∃ (i x : Nat), s3 = .int .i64 i ∧ s4 = .int .u64 x ∧ x < 18446744073709551616 ∧ i ≤ 20) (fun s3 _ => (dp - intOf s3).toNat)
        case atStart => exact ⟨i, x, rfl, rfl, h1, hi⟩
        case round =>
          obtain ⟨j, y, rfl, rfl, g1, g2⟩ := hrel
          by_cases hj : (j : Int) < dp
          · go_wp2
            refine ⟨⟨j + 1, (y * 10) % 18446744073709551616, rfl, vint' ?_, Nat.mod_lt _ (by decide), by omega⟩, by simp [intOf]; omega⟩
            rw [IntKind.wrap_u64]; omega
          · go_wp2_with (first
              | (go_at_call 130; refine (sru_any p f nd dp dp w h.out hok.out hd0 hd1).mono ?_; rintro e w' ⟨⟨v, rfl, b, rfl⟩, rfl⟩; cases b))
            · go_ret
              exact ⟨⟨y, rfl, g1⟩, rfl⟩
            · go_ret
              refine ⟨⟨(y + 1) % 18446744073709551616, ret_int' ?_, Nat.mod_lt _ (by decide)⟩, rfl⟩
              rw [IntKind.wrap_u64]; omega
      · go_wp2
        go_loop [3, 4] (fun s3 s4 => ∃ (i x : Nat), s3 = .int .i64 i ∧ s4 = .int .u64 x ∧ x < 18446744073709551616 ∧ i ≤ 20 ∧ ¬ (i : Int) < dp) (fun s3 _ => (dp - intOf s3).toNat)
        case atStart => exact ⟨i, x, rfl, rfl, h1, hi, by omega⟩
        case round =>
          obtain ⟨j, y, rfl, rfl, g1, g2, hj⟩ := hrel
          go_wp2_with (first
            | (go_at_call 130; refine (sru_any p f nd dp dp w h.out hok.out hd0 hd1).mono ?_; rintro e w' ⟨⟨v, rfl, b, rfl⟩, rfl⟩; cases b))
          · go_ret
            exact ⟨⟨y, rfl, g1⟩, rfl⟩
          · go_ret
            refine ⟨⟨(y + 1) % 18446744073709551616, ret_int' ?_, Nat.mod_lt _ (by decide)⟩, rfl⟩
            rw [IntKind.wrap_u64]; omega
end Go.Proofs.YtgmbjdoifkjdhaaGreatDoor
end
section
namespace Go.Proofs.YtgmbjdoifkjdhaaGreatDoor
open Go.RowKit

theorem and_mask (n k : Nat) (K : Nat) (hK : 2 ^ k = K) (hn : n < 18446744073709551616) (hk : k ≤ 60) : bits .and .u64 (n : Int) ((K : Int) - 1) = ((n % K : Nat) : Int) := by
  have h1 : 0 < K := by rw [← hK]; exact Nat.two_pow_pos k
  have h2 : K ≤ 2 ^ 60 := by rw [← hK]; exact Nat.pow_le_pow_right (by decide) hk
  have h3 := u64_and_nat n (K - 1) hn (by omega)
  rw [show ((K - 1 : Nat) : Int) = (K : Int) - 1 by omega] at h3
  rw [h3, ← hK, Nat.and_two_pow_sub_one_eq_mod]
theorem few {r n : Nat} (h : 1 ≤ r → 10 ^ (r - 1) ≤ n) (hn : n < 1152921504606846976) : r ≤ 19 := by
  rcases Nat.lt_or_ge r 20 with h1 | h1
  · omega
  · have h2 := h (by omega)
    have h3 : 10 ^ 19 ≤ 10 ^ (r - 1) := Nat.pow_le_pow_right (by decide) (by omega)
    have h4 : (1152921504606846976 : Nat) < 10 ^ 19 := by decide
    omega
theorem pow_next {r n m : Nat} (h : 1 ≤ r → 10 ^ (r - 1) ≤ n) (h0 : r = 0 → 1 ≤ m) (hm : n * 10 ≤ m) : 1 ≤ r + 1 → 10 ^ (r + 1 - 1) ≤ m := by
  intro _
  by_cases hr : r = 0
  · subst hr; exact h0 rfl
  · have h1 := h (by omega)
    have h2 : 10 ^ (r + 1 - 1) = 10 ^ (r - 1) * 10 := by rw [← Nat.pow_succ]; congr 1; omega
    rw [h2]; omega
/-- The digits as the shift goes on: those before wi are new, those from wi on still the old ones. -/
structure RsSt (f g : Nat → Nat) (wi n n0 K : Nat) : Prop where
  old : ∀ i, wi ≤ i → i < 800 → g i = f i
  new : ∀ i, i < wi → 48 ≤ g i ∧ g i ≤ 57
  byte : ∀ i, i < 800 → g i < 256
  start : wi = 0 → n = n0
  first : 0 < wi → g 0 = 48 + n0 / K
theorem RsSt.step {f g : Nat → Nat} {wi n n0 K m : Nat} (h : RsSt f g wi n n0 K) (hn : n < 10 * K) : RsSt f (upd g wi (48 + n / K)) (wi + 1) m n0 K := by
  have hq : n / K < 10 := Nat.div_lt_of_lt_mul (by rw [Nat.mul_comm]; exact hn)
  have hst : wi = 0 → n / K = n0 / K := fun he => by rw [h.start he]
  obtain ⟨q, hqq⟩ : ∃ q, n / K = q := ⟨_, rfl⟩
  rw [hqq] at hq hst ⊢
  refine ⟨fun i h1 h2 => ?_, fun i h1 => ?_, fun i h1 => ?_, fun h1 => by omega, fun _ => ?_⟩
  · unfold upd; rw [if_neg (by omega)]; exact h.old i (by omega) h2
  · unfold upd
    by_cases he : i = wi
    · rw [if_pos he]; omega
    · rw [if_neg he]; exact h.new i (by omega)
  · unfold upd
    by_cases he : i = wi
    · rw [if_pos he]; omega
    · rw [if_neg he]; exact h.byte i h1
  · unfold upd
    by_cases he : 0 = wi
    · rw [if_pos he, hst he.symm]
    · rw [if_neg he]; exact h.first (by omega)
theorem halve_dvd {j k n : Nat} (h : 2 ^ j ∣ n) : 2 ^ (j + 1) ∣ (n % 2 ^ k) * 10 := by
  rcases Nat.le_total j k with hjk | hjk
  · have h1 : 2 ^ j ∣ n % 2 ^ k := (Nat.dvd_mod_iff (Nat.pow_dvd_pow 2 hjk)).mpr h
    obtain ⟨c, hc⟩ := h1
    exact ⟨5 * c, by rw [hc, Nat.pow_succ, Nat.mul_assoc, Nat.mul_assoc]; congr 1; omega⟩
  · have h1 : 2 ^ k ∣ n := Nat.dvd_trans (Nat.pow_dvd_pow 2 hjk) h
    rw [Nat.mod_eq_zero_of_dvd h1, Nat.zero_mul]
    exact Nat.dvd_zero _
set_option maxRecDepth 100000 in
set_option maxHeartbeats 4000000 in
theorem rshift_any (L p : Nat) (f : Nat → Nat) (nd k : Nat) (dp : Int) (w : World) (h : Dc w p f nd dp) (hok : DcOk f nd) (hn : 0 < nd) (hL : L ≤ p) (hk1 : 1 ≤ k) (hk : k ≤ 60) (hd0 : -1000000 ≤ dp) (hd1 : dp ≤ 1000000) :
    Calls Tryz.prog 129 #[.pointer (some ⟨p, 0, none⟩), .int .u64 k] w fun e w' => e = .returned (.tuple #[]) ∧ (∃ (f' : Nat → Nat) (nd' r : Nat), Dc w' p f' nd' (dp - r) ∧ DcOk f' nd' ∧ 0 < nd' ∧ r ≤ 20 ∧ (r = 0 → f' 0 < f 0)) ∧ Below L w w' := by
  obtain ⟨K, hK⟩ : ∃ K, 2 ^ k = K := ⟨_, rfl⟩
  have hKi : ((2 : Int) ^ k) = (K : Int) := by rw [← hK]; simp
  have hK2 : 2 ≤ K := by rw [← hK]; exact Nat.le_trans (by decide : 2 ≤ 2 ^ 1) (Nat.pow_le_pow_right (by decide) hk1)
  have hK60 : K ≤ 1152921504606846976 := by rw [← hK]; exact Nat.pow_le_pow_right (by decide) hk
  have hle := hok.le
  have hc := h.cnd
  replace hok := hide hok
  replace h := hide h
  go_enter Tryz.func129, Tryz.ntmps129
  go_upto_block 0 with (fail)
  go_cut [4, 6] (fun s4 s6 w' => (∃ (r n : Nat), s4 = .int .i64 r ∧ s6 = .int .u64 n ∧ 1 ≤ r ∧ r ≤ 20 ∧ K ≤ n ∧ n < 10 * K ∧ (r = 1 → n = f 0 - 48)) ∧ w = w')
  case first =>
    go_wp2
    go_loop [4, 6] (fun s4 s6 => ∃ (r n : Nat), s4 = .int .i64 r ∧ s6 = .int .u64 n ∧ r ≤ nd ∧ r ≤ 20 ∧ n < 10 * K ∧ (r = 0 → n = 0) ∧ (r = 1 → n = f 0 - 48) ∧ Hid (1 ≤ r → 10 ^ (r - 1) ≤ n)) (fun s4 _ => nd + 1 - (intOf s4).toNat)
    case atStart => exact ⟨0, 0, rfl, rfl, by omega, by omega, by omega, fun _ => rfl, fun h => absurd h (by decide), hide fun h => absurd h (by decide)⟩
    case round =>
      obtain ⟨r, n, rfl, rfl, h1, h2, h3, h4, h5, h6⟩ := hrel
      by_cases hlt : n < K
      · have hdiv : (n : Int) / (K : Int) = 0 := Int.ediv_eq_zero_of_lt (by omega) (by omega)
        by_cases hr : r < nd
        · have hd := h.out.dig r (by omega)
          have hd2 : w.cell? ⟨p, 0 + r, none⟩ = some (.int .u8 (f r)) := by rw [Nat.zero_add]; exact hd
          have hb := hok.out.dig r hr
          have hf0 := hok.out.first hn
          have hr19 := few h6.out (by omega)
          have hb0 := hok.out.dig 0 hn
          have hp := pow_next (m := n * 10 + f r - 48) h6.out (fun h0 => by subst h0; omega) (by omega)
          replace hp := hide hp
          go_wp2
          refine ⟨⟨r + 1, n * 10 + f r - 48, rfl, vint' (by omega), hr, by omega, by omega, by omega, fun h1 => ?_, hp⟩, by simp [intOf]; omega⟩
          have h0 : r = 0 := by omega
          subst h0
          rw [h4 rfl]; omega
        · have hr0 : r ≠ 0 := by omega
          have hpos : 1 ≤ n := by
            have := h6.out (by omega)
            have := Nat.pow_pos (n := r - 1) (show 0 < 10 by decide)
            omega
          go_wp2
          go_loop [4, 6] (fun s4 s6 => ∃ (r n : Nat), s4 = .int .i64 r ∧ s6 = .int .u64 n ∧ 1 ≤ r ∧ r ≤ 20 ∧ n < 10 * K ∧ 1 ≤ n ∧ (r = 1 → n = f 0 - 48) ∧ Hid (1 ≤ r → 10 ^ (r - 1) ≤ n)) (fun _ s6 => 10 * K - (intOf s6).toNat)
          case atStart => exact ⟨r, n, rfl, rfl, by omega, h2, h3, hpos, h5, h6⟩
          case round =>
            obtain ⟨r2, n2, rfl, rfl, g1, g2, g3, g4, g5, g6⟩ := hrel
            by_cases hlt2 : n2 < K
            · have hdiv2 : (n2 : Int) / (K : Int) = 0 := Int.ediv_eq_zero_of_lt (by omega) (by omega)
              have hr19 := few g6.out (by omega)
              have hp := pow_next (m := n2 * 10) g6.out (fun h0 => by omega) (by omega)
              replace hp := hide hp
              go_wp2
              exact ⟨⟨r2 + 1, n2 * 10, rfl, vint' (by omega), by omega, by omega, by omega, by omega, fun h1 => by omega, hp⟩, by simp [intOf]; omega⟩
            · have hdiv2 : ((n2 : Int) / (K : Int) == 0) = false := by
                have : 1 ≤ (n2 : Int) / (K : Int) := by rw [Int.le_ediv_iff_mul_le (by omega)]; omega
                simp; omega
              go_wp2
              go_meet; case rel => exact ⟨⟨r2, n2, rfl, rfl, g1, g2, by omega, g3, g5⟩, rfl⟩
      · have hdiv2 : ((n : Int) / (K : Int) == 0) = false := by
          have : 1 ≤ (n : Int) / (K : Int) := by rw [Int.le_ediv_iff_mul_le (by omega)]; omega
          simp; omega
        go_wp2
        go_meet; case rel => exact ⟨⟨r, n, rfl, rfl, by omega, h2, by omega, h3, h5⟩, rfl⟩
  case rest =>
  obtain ⟨⟨r, n0, rfl, rfl, h1, h2, h3, h4, h5⟩, rfl⟩ := hcut
  have hp := h.out.cdp
  have hz1 := h.out.fz 801
  have hD1 := hide (h.out.setDp (dp - ((r : Int) - 1)) (dp - ((r : Int) - 1)) rfl)
  have hb1 : Hid (Below L w (w.setCell ⟨p, 801, none⟩ (.int .i64 (dp - ((r : Int) - 1))))) := hide ((Below.refl _ _).setCell hL _)
  have hRs : Hid (RsSt f f 0 n0 n0 K) := hide ⟨fun _ _ _ => rfl, fun i hi => absurd hi (by omega), hok.out.byte, fun _ => rfl, fun h => absurd h (by omega)⟩
  go_upto_block 4 with (fail)
  go_cut [4, 5, 6] (fun _ s5 s6 wq => ∃ (wi n : Nat) (g : Nat → Nat), s5 = .int .i64 wi ∧ s6 = .int .u64 n ∧ wi ≤ 800 ∧ n < 10 * K ∧ Hid (Dc wq p g nd (dp - ((r : Int) - 1))) ∧ Hid (RsSt f g wi n n0 K) ∧ Hid (Below L w wq))
  case first =>
    go_wp2
    go_loopw [4, 5, 6] (fun s4 s5 s6 wr => ∃ (r2 wi n : Nat) (g : Nat → Nat), s4 = .int .i64 r2 ∧ s5 = .int .i64 wi ∧ s6 = .int .u64 n ∧ wi < r2 ∧ (wi = 0 ∨ wi ≤ nd) ∧ r2 ≤ 900 ∧ n < 10 * K ∧ Hid (Dc wr p g nd (dp - ((r : Int) - 1))) ∧ Hid (RsSt f g wi n n0 K) ∧ Hid (Below L w wr))
      (fun s4 _ _ _ => nd - (intOf s4).toNat)
    case atStart => exact ⟨r, 0, n0, f, rfl, rfl, rfl, by omega, .inl rfl, by omega, h4, hD1, hRs, hb1⟩
    case round =>
      obtain ⟨r2, wi, n, g, rfl, rfl, rfl, g1, g2, g3, g4, hD, hR, hb⟩ := hrel
      have hcn := hD.out.cnd
      by_cases hlt : r2 < nd
      · have hd := hD.out.dig r2 (by omega)
        have hd2 : wr.cell? ⟨p, 0 + r2, none⟩ = some (.int .u8 (g r2)) := by rw [Nat.zero_add]; exact hd
        have hfd := hok.out.dig r2 hlt
        rw [← hR.out.old r2 (by omega) (by omega)] at hfd
        have he := hD.out.dig wi (by omega)
        have he2 : wr.cell? ⟨p, 0 + wi, none⟩ = some (.int .u8 (g wi)) := by rw [Nat.zero_add]; exact he
        have hz := hD.out.fz wi
        have hz2 : wr.frozen? ⟨p, 0 + wi, none⟩ = false := by rw [Nat.zero_add]; exact hz
        have hm := and_mask n k K hK (by omega) hk
        have hmod : n % K < K := Nat.mod_lt _ (by omega)
        have hq : n / K < 10 := Nat.div_lt_of_lt_mul (by rw [Nat.mul_comm]; exact g4)
        have hdv : (n : Int) / (K : Int) = ((n / K : Nat) : Int) := by simp
        have hR2 := hide (hR.out.step (m := (n % K) * 10 + g r2 - 48) g4)
        obtain ⟨q, hqq⟩ : ∃ q, n / K = q := ⟨_, rfl⟩
        obtain ⟨m, hmm⟩ : ∃ m, n % K = m := ⟨_, rfl⟩
        rw [hqq] at hdv hR2 hq
        rw [hmm] at hm hmod hR2
        go_wp2
        refine ⟨⟨r2 + 1, wi + 1, m * 10 + g r2 - 48, upd g wi (48 + q), rfl, rfl, vint' (by omega), by omega, by omega, by omega, by omega, hide ?_, hR2, hide ?_⟩, by simp [intOf]; omega⟩
        · exact hD.out.setDig wi (48 + q) (by omega) _ (by omega)
        · exact hb.out.setCell hL _
      · go_wp2
        go_meet; case rel => exact ⟨wi, n, g, rfl, rfl, by omega, g4, hD, hR, hb⟩
  case rest =>
  obtain ⟨wi0, m0, g0, rfl, rfl, i1, i2, hD0, hR0, hb0⟩ := hcut
  go_upto_block 6 with (fail)
  go_cut [5, 6] (fun s5 _ wq => ∃ (wi : Nat) (g : Nat → Nat), s5 = .int .i64 wi ∧ 0 < wi ∧ wi ≤ 800 ∧ Hid (Dc wq p g nd (dp - ((r : Int) - 1))) ∧ Hid (RsSt f g wi 0 n0 K) ∧ Hid (Below L w wq))
  case first =>
    go_wp2
    go_loopg [5, 6] (k + 4) (fun gk s5 s6 wr => ∃ (wi n : Nat) (g : Nat → Nat), s5 = .int .i64 wi ∧ s6 = .int .u64 n ∧ wi ≤ 800 ∧ n < 10 * K ∧ gk ≤ k + 4 ∧ Hid (2 ^ (k + 4 - gk) ∣ n) ∧ Hid (Dc wr p g nd (dp - ((r : Int) - 1))) ∧ Hid (RsSt f g wi n n0 K) ∧ Hid (Below L w wr))
    case atStart => exact ⟨wi0, m0, g0, rfl, rfl, i1, i2, Nat.le_refl _, hide (by simp), hD0, hR0, hb0⟩
    case round =>
      obtain ⟨wi, n, g, rfl, rfl, g1, g2, g3, hdv, hD, hR, hb⟩ := hrel
      by_cases hn0 : n = 0
      · subst hn0
        have hwi : wi ≠ 0 := fun he => by have := hR.out.start he; omega
        go_wp2
        go_meet; case rel => exact ⟨wi, g, rfl, by omega, g1, hD, hR, hb⟩
      · have hgk : 1 ≤ gk := by
          rcases Nat.eq_zero_or_pos gk with h0 | h0
          · subst h0
            have h16 : 2 ^ (k + 4) = K * 16 := by rw [Nat.pow_add, hK]
            have := Nat.le_of_dvd (by omega) hdv.out
            rw [Nat.sub_zero, h16] at this
            omega
          · exact h0
        have hdv2 : Hid (2 ^ (k + 4 - (gk - 1)) ∣ (n % K) * 10) := hide (by
          have := halve_dvd (k := k) hdv.out
          rw [hK] at this
          rw [show k + 4 - (gk - 1) = k + 4 - gk + 1 by omega]
          exact this)
        have hm := and_mask n k K hK (by omega) hk
        have hmod : n % K < K := Nat.mod_lt _ (by omega)
        have hq : n / K < 10 := Nat.div_lt_of_lt_mul (by rw [Nat.mul_comm]; exact g2)
        have hdq : (n : Int) / (K : Int) = ((n / K : Nat) : Int) := by simp
        have hR2 := hide (hR.out.step (m := (n % K) * 10) g2)
        have hR3 : Hid (0 < wi → RsSt f g wi ((n % K) * 10) n0 K) := hide fun hw => ⟨hR.out.old, hR.out.new, hR.out.byte, fun h => absurd h (by omega), hR.out.first⟩
        obtain ⟨q, hqq⟩ : ∃ q, n / K = q := ⟨_, rfl⟩
        obtain ⟨m, hmm⟩ : ∃ m, n % K = m := ⟨_, rfl⟩
        rw [hqq] at hdq hR2 hq
        rw [hmm] at hm hmod hR2 hR3 hdv2
        by_cases hw8 : wi < 800
        · have he := hD.out.dig wi hw8
          have he2 : wr.cell? ⟨p, 0 + wi, none⟩ = some (.int .u8 (g wi)) := by rw [Nat.zero_add]; exact he
          have hz := hD.out.fz wi
          have hz2 : wr.frozen? ⟨p, 0 + wi, none⟩ = false := by rw [Nat.zero_add]; exact hz
          go_wp2
          go_roundg (gk - 1)
          case measure => omega
          case rel => exact ⟨wi + 1, m * 10, upd g wi (48 + q), rfl, vint' (by omega), by omega, by omega, by omega, hdv2, hide (hD.out.setDig wi (48 + q) hw8 _ (by omega)), hR2, hide (hb.out.setCell hL _)⟩
        · obtain ⟨tb, ht⟩ := hD.out.ctr
          have hz := hD.out.fz 803
          by_cases hq0 : q = 0
          · subst hq0
            go_wp2
            go_roundg (gk - 1)
            case measure => omega
            case rel => exact ⟨wi, m * 10, g, rfl, vint' (by omega), by omega, by omega, by omega, hdv2, hD, hide (hR3.out (by omega)), hb⟩
          · go_wp2
            go_roundg (gk - 1)
            case measure => omega
            case rel => exact ⟨wi, m * 10, g, rfl, vint' (by omega), by omega, by omega, by omega, hdv2, hide (hD.out.setB 803 (.inr rfl) true), hide (hR3.out (by omega)), hide (hb.out.setCell hL _)⟩
  case rest =>
  obtain ⟨wi, g, rfl, i3, i4, hDf, hRf, hbf⟩ := hcut
  have hcn := hDf.out.cnd
  have hz := hDf.out.fz 800
  have hq1 : 1 ≤ n0 / K := by rw [Nat.le_div_iff_mul_le (by omega)]; omega
  have hq9 : n0 / K < 10 := Nat.div_lt_of_lt_mul (by rw [Nat.mul_comm]; exact h4)
  have hq2 : n0 / K ≤ n0 / 2 := Nat.div_le_div_left hK2 (by decide)
  have hgf := hRf.out.first i3
  obtain ⟨q, hqq⟩ : ∃ q, n0 / K = q := ⟨_, rfl⟩
  rw [hqq] at hq1 hq9 hq2 hgf
  have hok2 : Hid (DcOk g wi) := hide ⟨i4, hRf.out.byte, hRf.out.new, fun _ => by rw [hgf]; omega⟩
  have hD2 := hide (hDf.out.setNd wi wi rfl)
  have hb2 : Hid (Below L w (wc.setCell ⟨p, 800, none⟩ (.int .i64 wi))) := hide (hbf.out.setCell hL _)
  go_wp2_with (first
    | (go_at_call 127; refine (dtrim_any L p g wi _ _ hD2.out hok2.out i3 hL).mono ?_; rintro e w3 ⟨rfl, ⟨n3, j1, j2, hD3⟩, hb3⟩))
  go_end0
  refine ⟨rfl, ⟨g, n3, r - 1, ?_, ⟨by omega, hRf.out.byte, fun i hi => hRf.out.new i (by omega), fun _ => by rw [hgf]; omega⟩, j1, by omega, fun h0 => ?_⟩, hb2.out.trans hb3⟩
  · rw [show ((r - 1 : Nat) : Int) = (r : Int) - 1 by omega]; exact hD3
  · have := h5 (by omega)
    have := hok.out.dig 0 hn
    rw [hgf]; omega
end Go.Proofs.YtgmbjdoifkjdhaaGreatDoor
end
section
namespace Go.Proofs.YtgmbjdoifkjdhaaGreatDoor
open Go.RowKit

/-- The value of the first n digits. -/
def dvf (f : Nat → Nat) : Nat → Nat
  | 0 => 0
  | n + 1 => dvf f n * 10 + (f n - 48)
theorem dvf_low (f : Nat → Nat) (i : Nat) : ∀ m, dvf f i * 10 ^ m ≤ dvf f (i + m) := by
  intro m
  induction m with
  | zero => simp
  | succ m ih =>
    rw [Nat.pow_succ, ← Nat.mul_assoc]
    show _ ≤ dvf f (i + m) * 10 + _
    omega
theorem dvf_high (f : Nat → Nat) (i : Nat) : ∀ m, (∀ j, j < i + m → 48 ≤ f j ∧ f j ≤ 57) → dvf f (i + m) + 1 ≤ (dvf f i + 1) * 10 ^ m := by
  intro m
  induction m with
  | zero => intro _; simp
  | succ m ih =>
    intro h
    have h1 := ih fun j hj => h j (by omega)
    have h2 := h (i + m) (by omega)
    rw [Nat.pow_succ, ← Nat.mul_assoc]
    show dvf f (i + m) * 10 + (f (i + m) - 48) + 1 ≤ _
    omega
theorem dvf_same (f g : Nat → Nat) : ∀ n, (∀ j, j < n → f j = g j) → dvf f n = dvf g n := by
  intro n
  induction n with
  | zero => intro _; rfl
  | succ n ih =>
    intro h
    simp only [dvf]
    rw [ih fun j hj => h j (by omega), h n (by omega)]
theorem dvf_lt {f g : Nat → Nat} {i n m : Nat} (hn : i < n) (hm : i < m) (hs : ∀ j, j < i → f j = g j) (hf : ∀ j, j < n → 48 ≤ f j ∧ f j ≤ 57) (hg : ∀ j, j < m → 48 ≤ g j ∧ g j ≤ 57) (hlt : f i < g i) : dvf f n * 10 ^ m < dvf g m * 10 ^ n := by
  have h1 := dvf_high f (i + 1) (n - (i + 1)) (fun j hj => hf j (by omega))
  have h2 := dvf_low g (i + 1) (m - (i + 1))
  rw [show i + 1 + (n - (i + 1)) = n by omega] at h1
  rw [show i + 1 + (m - (i + 1)) = m by omega] at h2
  have h3 : dvf f (i + 1) + 1 ≤ dvf g (i + 1) := by
    simp only [dvf]
    rw [dvf_same f g i hs]
    have := hf i hn
    have := hg i hm
    omega
  have h4 : (dvf f n + 1) * 10 ^ m ≤ dvf g (i + 1) * 10 ^ (n - (i + 1)) * 10 ^ m := Nat.mul_le_mul_right _ (Nat.le_trans h1 (Nat.mul_le_mul_right _ h3))
  have h5 : dvf g (i + 1) * 10 ^ (m - (i + 1)) * 10 ^ n ≤ dvf g m * 10 ^ n := Nat.mul_le_mul_right _ h2
  have h6 : dvf g (i + 1) * 10 ^ (n - (i + 1)) * 10 ^ m = dvf g (i + 1) * 10 ^ (m - (i + 1)) * 10 ^ n := by
    rw [Nat.mul_assoc, Nat.mul_assoc, ← Nat.pow_add, ← Nat.pow_add]
    congr 2
    omega
  have h7 : 0 < 10 ^ m := Nat.pow_pos (by decide)
  rw [Nat.add_mul] at h4
  omega
/-- Whether the digits begin below those of g. -/
def Less (f g : Nat → Nat) (n m : Nat) (b : Bool) : Prop := if b then dvf f n * 10 ^ m < dvf g m * 10 ^ n else dvf g m * 10 ^ n ≤ dvf f n * 10 ^ m
theorem less_end {f g : Nat → Nat} {n m : Nat} (hmn : m ≤ n) (hs : ∀ j, j < m → f j = g j) : Less f g n m false := by
  have h1 := dvf_low f m (n - m)
  rw [show m + (n - m) = n by omega, dvf_same f g m hs] at h1
  have h2 := Nat.mul_le_mul_right (10 ^ m) h1
  rw [Nat.mul_assoc, ← Nat.pow_add, show n - m + m = n by omega] at h2
  exact h2
theorem less_short {f g : Nat → Nat} {n m : Nat} (hmn : n < m) (hs : ∀ j, j < n → f j = g j) (hlast : 48 < g (m - 1)) : Less f g n m true := by
  have h1 := dvf_low g n (m - 1 - n)
  rw [show n + (m - 1 - n) = m - 1 by omega, ← dvf_same f g n hs] at h1
  have h2 : dvf g m = dvf g (m - 1) * 10 + (g (m - 1) - 48) := by
    conv => lhs; rw [show m = m - 1 + 1 by omega]
    rfl
  have h3 : dvf f n * 10 ^ (m - n) < dvf g m := by
    rw [h2, show m - n = m - 1 - n + 1 by omega, Nat.pow_succ, ← Nat.mul_assoc]
    omega
  have h4 := Nat.mul_lt_mul_of_pos_right h3 (Nat.pow_pos (n := n) (show 0 < 10 by decide))
  rw [Nat.mul_assoc, ← Nat.pow_add, show m - n + n = m by omega] at h4
  exact h4
theorem less_diff {f g : Nat → Nat} {i n m : Nat} (hn : i < n) (hm : i < m) (hs : ∀ j, j < i → f j = g j) (hf : ∀ j, j < n → 48 ≤ f j ∧ f j ≤ 57) (hg : ∀ j, j < m → 48 ≤ g j ∧ g j ≤ 57) (hne : f i ≠ g i) : Less f g n m (decide ((f i : Int) < (g i : Int))) := by
  by_cases hlt : f i < g i
  · have : decide ((f i : Int) < (g i : Int)) = true := by simp; omega
    rw [this]
    exact dvf_lt hn hm hs hf hg hlt
  · have : decide ((f i : Int) < (g i : Int)) = false := by simp; omega
    rw [this]
    exact Nat.le_of_lt (dvf_lt hm hn (fun j hj => (hs j hj).symm) hg hf (by omega))

/-- The table's rows: five to the k, and what it adds of digits. -/
def cutF (k : Nat) : Nat → Nat := fun i => ((cheatCut k)[i]?.getD 0).toNat
def cheatOk (k : Nat) : Bool :=
  let m := (cheatCut k).length
  (cheatCut k).all (fun c => decide (48 ≤ c.toNat) && decide (c.toNat ≤ 57)) && decide (48 < cutF k (m - 1)) && decide (dvf (cutF k) m = 5 ^ k) && decide (m + cheatDelta k = k + 1) && decide (2 ^ k ≤ 10 ^ cheatDelta k) && decide (10 ^ (cheatDelta k - 1) ≤ 2 ^ k) && decide (1 ≤ cheatDelta k) && decide (cheatDelta k ≤ 19) && decide (0 < m)
theorem cheats_ok : ((List.range 61).all fun k => k == 0 || cheatOk k) = true := by kernel_rfl
structure CheatOk (k : Nat) : Prop where
  dig : ∀ j, j < (cheatCut k).length → 48 ≤ cutF k j ∧ cutF k j ≤ 57
  last : 48 < cutF k ((cheatCut k).length - 1)
  five : dvf (cutF k) (cheatCut k).length = 5 ^ k
  sum : (cheatCut k).length + cheatDelta k = k + 1
  up : 2 ^ k ≤ 10 ^ cheatDelta k
  down : 10 ^ (cheatDelta k - 1) ≤ 2 ^ k
  one : 1 ≤ cheatDelta k
  few : cheatDelta k ≤ 19
  pos : 0 < (cheatCut k).length
theorem cheat_ok (k : Nat) (h1 : 1 ≤ k) (h2 : k ≤ 60) : CheatOk k := by
  have h := List.all_eq_true.mp cheats_ok k (List.mem_range.mpr (by omega))
  have h0 : (k == 0) = false := by simp; omega
  rw [h0, Bool.false_or] at h
  unfold cheatOk at h
  simp only [Bool.and_eq_true, decide_eq_true_eq, List.all_eq_true] at h
  obtain ⟨⟨⟨⟨⟨⟨⟨⟨a1, a2⟩, a3⟩, a4⟩, a5⟩, a6⟩, a7⟩, a8⟩, a9⟩ := h
  refine ⟨fun j hj => ?_, a2, a3, a4, a5, a6, a7, a8, a9⟩
  have := a1 (cheatCut k)[j] (List.getElem_mem hj)
  unfold cutF
  rw [List.getElem?_eq_getElem hj]
  exact this
/-- The digits of the carry. -/
theorem carry_law {k V n d : Nat} {b : Bool} (C : CheatOk k) (hn : 0 < n) (hV0 : 10 ^ (n - 1) ≤ V) (hV1 : V < 10 ^ n) (hL : if b then V * 10 ^ (cheatCut k).length < 5 ^ k * 10 ^ n else 5 ^ k * 10 ^ n ≤ V * 10 ^ (cheatCut k).length)
    (hd : d = if b then cheatDelta k - 1 else cheatDelta k) : V * 2 ^ k / 10 ^ n < 10 ^ d ∧ (1 ≤ d → 10 ^ (d - 1) ≤ V * 2 ^ k / 10 ^ n) := by
  have hpn : 0 < 10 ^ n := Nat.pow_pos (by decide)
  have hpm : 0 < 10 ^ (cheatCut k).length := Nat.pow_pos (by decide)
  have h52 : 5 ^ k * 2 ^ k = 10 ^ k := by rw [← Nat.mul_pow]
  have hk : (cheatCut k).length + (cheatDelta k - 1) = k := by have := C.sum; have := C.one; omega
  have h10 : 10 ^ k = 10 ^ (cheatDelta k - 1) * 10 ^ (cheatCut k).length := by rw [← Nat.pow_add]; congr 1; omega
  cases b with
  | true =>
    simp only [if_true] at hL hd
    subst hd
    refine ⟨?_, fun h1 => ?_⟩
    · refine Nat.div_lt_of_lt_mul ?_
      have h1 := Nat.mul_lt_mul_of_pos_right hL (Nat.pow_pos (n := k) (show 0 < 2 by decide))
      have h2 : V * 10 ^ (cheatCut k).length * 2 ^ k = V * 2 ^ k * 10 ^ (cheatCut k).length := Nat.mul_right_comm _ _ _
      have h3 : 5 ^ k * 10 ^ n * 2 ^ k = 10 ^ n * 10 ^ (cheatDelta k - 1) * 10 ^ (cheatCut k).length := by
        rw [Nat.mul_right_comm, h52, h10, Nat.mul_comm, Nat.mul_assoc]
      rw [h2, h3] at h1
      exact Nat.lt_of_mul_lt_mul_right h1
    · rw [Nat.le_div_iff_mul_le hpn]
      have h2 : 10 ^ (cheatDelta k - 1 - 1) * 10 ^ n = 10 ^ (n - 1) * 10 ^ (cheatDelta k - 1) := by rw [← Nat.pow_add, ← Nat.pow_add]; congr 1; omega
      rw [h2]
      exact Nat.mul_le_mul hV0 C.down
  | false =>
    simp only [Bool.false_eq_true, if_false] at hL hd
    subst hd
    refine ⟨?_, fun _ => ?_⟩
    · refine Nat.div_lt_of_lt_mul ?_
      exact Nat.mul_lt_mul_of_lt_of_le hV1 C.up (Nat.pow_pos (by decide))
    · rw [Nat.le_div_iff_mul_le hpn]
      have h1 := Nat.mul_le_mul_right (2 ^ k) hL
      have h2 : V * 10 ^ (cheatCut k).length * 2 ^ k = V * 2 ^ k * 10 ^ (cheatCut k).length := Nat.mul_right_comm _ _ _
      have h3 : 5 ^ k * 10 ^ n * 2 ^ k = 10 ^ (cheatDelta k - 1) * 10 ^ n * 10 ^ (cheatCut k).length := by
        rw [Nat.mul_right_comm, h52, h10, Nat.mul_right_comm]
      rw [h2, h3] at h1
      exact Nat.le_of_mul_le_mul_right h1 hpm
end Go.Proofs.YtgmbjdoifkjdhaaGreatDoor
end
section
namespace Go.Proofs.YtgmbjdoifkjdhaaGreatDoor
open Go.RowKit

theorem drewN_three (w : World) (a b c : Nat) : ∃ n, ((w.drewN a).drewN b).drewN c = w.drewN n := ⟨a + b + c, by simp [Nat.add_assoc]⟩
def gS (s : ByteArray) : Nat → Nat := fun j => ((bs s)[j]?.getD 0).toNat
theorem gS_at (s : ByteArray) (j : Nat) (h : j < s.size) : gS s j = s[j].toNat := by
  unfold gS; rw [bs_at s j h]; rfl
def PlRes (f : Nat → Nat) (s : ByteArray) (nd : Nat) (v : Value) : Prop := ∃ b, v = .bool b ∧ Less f (gS s) nd s.size b
set_option maxRecDepth 100000 in
set_option maxHeartbeats 1000000 in
theorem plt_any (p cap : Nat) (f : Nat → Nat) (nd : Nat) (dp : Int) (s : ByteArray) (w : World) (h : Dc w p f nd dp) (hok : DcOk f nd) (hs : s.size ≤ 1000) (hs0 : 0 < s.size) (hg : ∀ j, j < s.size → 48 ≤ gS s j ∧ gS s j ≤ 57) (hlast : 48 < gS s (s.size - 1)) :
    Calls Tryz.prog 151 #[.slice (some ⟨p, 0, none⟩) nd cap, .string s] w fun e w' => (∃ v, e = .returned v ∧ PlRes f s nd v) ∧ ∃ n, w' = w.drewN n := by
  have hle := hok.le
  replace hok := hide hok
  replace h := hide h
  replace hg := hide hg
  replace hlast := hide hlast
  go_enter Tryz.func151, Tryz.ntmps151
  go_wp2
  go_loopw [5] (fun v wr => ∃ i : Nat, v = .int .i64 i ∧ i ≤ s.size ∧ i ≤ nd ∧ Hid (∀ j, j < i → f j = gS s j) ∧ ∃ n, wr = w.drewN n) (fun v _ => s.size - (intOf v).toNat)
  case atStart => exact ⟨0, rfl, by omega, by omega, hide fun j hj => absurd hj (by omega), 0, rfl⟩
  case round =>
    obtain ⟨i, rfl, h1, h2, h3, n, rfl⟩ := hrel
    by_cases hlt : i < s.size
    · by_cases hlt2 : i < nd
      · have hd := h.out.dig i (by omega)
        have hd2 : w.cell? ⟨p, 0 + i, none⟩ = some (.int .u8 (f i)) := by rw [Nat.zero_add]; exact hd
        have hgi := gS_at s i hlt
        by_cases hne : f i = gS s i
        · have he : (f i : Int) = (s[i].toNat : Int) := by rw [hne, hgi]
          go_wp2
          go_quiet (fail)
          go_wp2
          refine ⟨⟨i + 1, rfl, hlt, hlt2, hide fun j hj => ?_, _, rfl⟩, by simp [intOf]; omega⟩
          by_cases hj2 : j = i
          · subst hj2; exact hne
          · exact h3.out j (by omega)
        · have he : ¬ (f i : Int) = (s[i].toNat : Int) := by rw [← hgi]; omega
          go_wp2
          go_quiet (fail)
          go_wp2
          go_quiet (fail)
          go_wp2
          go_ret
          refine ⟨⟨_, rfl, _, rfl, ?_⟩, drewN_three w _ _ _⟩
          have := less_diff hlt2 hlt h3.out hok.out.dig hg.out hne
          rw [hgi] at this
          simpa using this
      · go_wp2
        go_ret
        refine ⟨⟨_, rfl, true, rfl, ?_⟩, n, rfl⟩
        have : i = nd := by omega
        subst this
        exact less_short hlt h3.out hlast.out
    · go_wp2
      go_ret
      refine ⟨⟨_, rfl, false, rfl, ?_⟩, n, rfl⟩
      have : i = s.size := by omega
      subst this
      exact less_end h2 h3.out
end Go.Proofs.YtgmbjdoifkjdhaaGreatDoor
end
