/- Digits and place to a text of the number; the four pinned texts; fmtEFG whole. -/
import Derived.Test.YtgmbjdoifkjdhaaGreatDoorKu
import Derived.Test.YtgmbjdoifkjdhaaGreatDoorFb
import Derived.Test.YtgmbjdoifkjdhaaGreatDoorFc
import Derived.Test.YtgmbjdoifkjdhaaGreatDoorFd
namespace Go.Proofs.YtgmbjdoifkjdhaaGreatDoor
open Go.RowKit

theorem efg_any (d g : Nat) (neg : Bool) (ds : List UInt8) (dp : Int) (w : World) (hD : Dst d [] w w) (hds : DigAt g ds w) (hg : g ≠ d) (h1 : 0 < ds.length) (h2 : ds.length ≤ 17) (hb : (dp - 1).natAbs < 1000) :
    Calls Tryz.prog 95 #[.slice (some ⟨d, 0, none⟩) 0 24, .bool neg, .slice (some ⟨g, 0, none⟩) 32 32, .int .i64 dp, .int .i64 ds.length, .int .i64 ds.length, .int .u8 103, .bool true] w (EfgOut d (gT neg ds dp) w) := by
  by_cases h : dp < -3 ∨ 6 < dp
  · exact efg_e d g neg ds dp w hD hds hg h1 h2 h hb
  · exact efg_f d g neg ds dp w hD hds hg h1 h2 (by omega) (by omega)
set_option maxRecDepth 100000 in
set_option maxHeartbeats 8000000 in
theorem efg_zero (d : Nat) (neg : Bool) (w : World) (hD : Dst d [] w w) :
    Calls Tryz.prog 95 #[.slice (some ⟨d, 0, none⟩) 0 24, .bool neg, .slice none 0 0, .int .i64 0, .int .i64 0, .int .i64 (-1), .int .u8 103, .bool true] w (EfgOut d (gT neg [] 0) w) := by
  obtain ⟨i0, hi, hz0, hz1, hz2⟩ := info_parts info5
  replace hD := hide hD
  cases neg
  · go_enter Tryz.func95, Tryz.ntmps95
    go_wp2_with (first | (at_builtin; refine wpList_app1 hi hz1 rfl _ _ rfl d [] w _ hD.out 48 48 rfl _ _ rfl rfl rfl rfl (by decide) ?_; intro w1 hD1; replace hD1 := hide hD1))
    go_ret
    exact ⟨rfl, hD1.out⟩
  · go_enter Tryz.func95, Tryz.ntmps95
    go_wp2_with (first
      | (at_builtin; refine wpList_app1 hi hz1 rfl _ _ rfl d [45] w _ hD1.out 48 48 rfl _ _ rfl rfl rfl rfl (by decide) ?_; intro w2 hD2; replace hD2 := hide hD2)
      | (at_builtin; refine wpList_app1 hi hz1 rfl _ _ rfl d [] w _ hD.out 45 45 rfl _ _ rfl rfl rfl rfl (by decide) ?_; intro w1 hD1; replace hD1 := hide hD1))
    go_ret
    exact ⟨rfl, hD2.out⟩
/-- A float's parts stand for it. -/
def wordP (neg : Bool) (M k : Nat) : Nat := Fl.wordOf neg (k * 4503599627370496 + M)
theorem pin_parts {neg : Bool} {M k z : Nat} (h : FlIn M k z) (x M' k' : Nat) (hx : x = k' * 4503599627370496 + M') (hx63 : x < 9223372036854775808) (hM1 : 4503599627370496 ≤ M') (hM2 : M' < 9007199254740992) (hk : 0 < k') (he : wordP neg M k = x) : neg = false ∧ M = M' ∧ k = k' := by
  have h1 := h.M1
  have h2 := h.k0
  have h3 := h.k1
  unfold wordP Fl.wordOf at he
  cases neg
  · simp only [Bool.false_eq_true, if_false] at he
    refine ⟨rfl, ?_⟩
    rcases h2 with rfl | h2
    · omega
    · have hkk : k = k' := by omega
      exact ⟨by omega, hkk⟩
  · simp only [if_true] at he; omega
theorem pin_z {z : Nat} {M k : Nat} (h : FlIn M k z) (hM : 4503599627370496 ≤ M) : z = 11 := by
  have h1 := h.z11
  have h2 := h.z1
  apply Nat.le_antisymm _ h1
  apply Nat.le_of_not_lt
  intro h3
  have h4 : 4096 ≤ 2 ^ z := Nat.pow_le_pow_right (show 0 < 2 by omega) (show 12 ≤ z by omega)
  have := Nat.mul_le_mul hM h4
  omega
theorem sR_1 : sR 4503599627370496 1022 11 = (1000000000000000, true) ∧ sE 4503599627370496 1022 11 = -15 := ⟨by kernel_rfl, by kernel_rfl⟩
theorem sR_2 : sR 4503599627370496 1023 11 = (2000000000000000, true) ∧ sE 4503599627370496 1023 11 = -15 := ⟨by kernel_rfl, by kernel_rfl⟩
theorem sR_3 : sR 6755399441055744 1023 11 = (3000000000000000, true) ∧ sE 6755399441055744 1023 11 = -15 := ⟨by kernel_rfl, by kernel_rfl⟩
theorem sR_4 : sR 4503599627370496 1024 11 = (4000000000000000, true) ∧ sE 4503599627370496 1024 11 = -15 := ⟨by kernel_rfl, by kernel_rfl⟩
theorem dec_e15 (c : Nat) (h : c = 1 ∨ c = 2 ∨ c = 3 ∨ c = 4) : Lib.decDigits (c * 1000000000000000) = dg c :: List.replicate 15 48 ∧ Lib.nDigits (c * 1000000000000000) = 16 := by
  have key : ∀ n u, u < 10 → 0 < u → Lib.decDigits (u * 10 ^ n) = dg u :: List.replicate n 48 ∧ Lib.nDigits (u * 10 ^ n) = n + 1 := by
    intro n
    induction n with
    | zero => intro u hu _; rw [Nat.pow_zero, Nat.mul_one]; exact ⟨dec_small hu, Lib.nDigits_small hu⟩
    | succ n ih =>
      intro u hu h0
      obtain ⟨h1, h2⟩ := ih u hu h0
      have hp : 0 < 10 ^ n := Nat.pow_pos (by decide)
      have hge := Nat.mul_le_mul h0 hp
      have e : u * 10 ^ (n + 1) = u * 10 ^ n * 10 := by rw [Nat.pow_succ, Nat.mul_assoc]
      have hnot : ¬ u * 10 ^ (n + 1) < 10 := by rw [e]; omega
      have ediv : u * 10 ^ (n + 1) / 10 = u * 10 ^ n := by rw [e, Nat.mul_div_cancel _ (by decide)]
      have emod : u * 10 ^ (n + 1) % 10 = 0 := by rw [e, Nat.mul_mod_left]
      refine ⟨?_, ?_⟩
      · rw [dec_big hnot, ediv, emod, h1, List.cons_append, ← rep_snoc]; rfl
      · rw [Lib.nDigits_big hnot, ediv, h2]
  have := key 15 c (by omega) (by omega)
  exact this
theorem pin_text (c : Nat) (h : c = 1 ∨ c = 2 ∨ c = 3 ∨ c = 4) {nz : Nat} (hT : Trim (Lib.decDigits (c * 1000000000000000)) nz) : gT false ((Lib.decDigits (c * 1000000000000000)).take nz) ((Lib.nDigits (c * 1000000000000000) : Nat) + (-15)) = [dg c] := by
  obtain ⟨h1, h2⟩ := dec_e15 c h
  rw [h1] at hT
  rw [h1, h2]
  have hle := hT.le
  rw [List.length_cons, List.length_replicate] at hle
  have hne : nz ≠ 0 := by
    rintro rfl
    have := hT.zero 0 (Nat.le_refl _) (by simp)
    simp at this
    have h3 := congrArg UInt8.toNat this
    rw [dg_nat (by omega), t48] at h3
    omega
  have h1z : nz = 1 := by
    have hl := hT.last hne
    rcases Nat.lt_or_ge 1 nz with h3 | h3
    · exfalso
      apply hl
      obtain ⟨q, rfl⟩ : ∃ q, nz = q + 2 := ⟨nz - 2, by omega⟩
      rw [show q + 2 - 1 = q + 1 by omega, List.getElem?_cons_succ, List.getElem?_replicate, if_pos (by omega)]
    · omega
  subst h1z
  rfl
/-- The number's text, as it is written. -/
theorem num_text {neg : Bool} {M k z : Nat} (h : FlIn M k z) {nz : Nat} (hT : Trim (Lib.decDigits (sR M k z).1) nz) :
    NT (gT neg ((Lib.decDigits (sR M k z).1).take nz) ((Lib.nDigits (sR M k z).1 : Nat) + sE M k z)) (wordP neg M k) := by
  have hs := h.near.2
  obtain ⟨hpos, hlt, hP0, hP1, hn⟩ := hs
  have hval := trim_val hT
  rw [dec_val, dec_len] at hval
  have hle := hT.le
  rw [dec_len] at hle
  have h17 := ndig_17 hlt
  have hlen : ((Lib.decDigits (sR M k z).1).take nz).length = nz := by rw [List.length_take, dec_len]; omega
  have h0 : 0 < dva 0 ((Lib.decDigits (sR M k z).1).take nz) := by
    rcases Nat.eq_zero_or_pos (dva 0 ((Lib.decDigits (sR M k z).1).take nz)) with h0 | h0
    · rw [h0, Nat.zero_mul] at hval; omega
    · exact h0
  have hv : dva 0 ((Lib.decDigits (sR M k z).1).take nz) < 100000000000000000 := by
    have h5 := Nat.mul_le_mul_left (dva 0 ((Lib.decDigits (sR M k z).1).take nz)) (show 1 ≤ 10 ^ (Lib.nDigits (sR M k z).1 - nz) from Nat.pow_pos (by decide))
    omega
  have his : ∃ m e, Lit (gT neg ((Lib.decDigits (sR M k z).1).take nz) ((Lib.nDigits (sR M k z).1 : Nat) + sE M k z)) neg m e ∧ Val neg m e (wordP neg M k) := by
    refine val_g neg _ (sE M k z) _ (Lib.nDigits (sR M k z).1 - nz) M k (fun c hc => dec_isD _ c (List.mem_of_mem_take hc)) h0 hv (by rw [hlen]; omega) (by rw [hlen]; omega) ⟨hP0, hP1⟩ h.M0 h.M1 h.k0 h.k1 ?_
    rw [hval]; exact hn
  refine ⟨.inr (.inr (.inr ⟨neg, his⟩)), fun hx => ?_, fun hx => ?_, fun hx => ?_, fun hx => ?_⟩
  · obtain ⟨rfl, rfl, rfl⟩ := pin_parts h w1 4503599627370496 1022 (by decide) (by decide) (by decide) (by decide) (by decide) hx
    obtain rfl := pin_z h (by decide)
    rw [sR_1.1] at hT ⊢
    rw [sR_1.2]
    exact pin_text 1 (.inl rfl) hT
  · obtain ⟨rfl, rfl, rfl⟩ := pin_parts h w2 4503599627370496 1023 (by decide) (by decide) (by decide) (by decide) (by decide) hx
    obtain rfl := pin_z h (by decide)
    rw [sR_2.1] at hT ⊢
    rw [sR_2.2]
    exact pin_text 2 (.inr (.inl rfl)) hT
  · obtain ⟨rfl, rfl, rfl⟩ := pin_parts h w3 6755399441055744 1023 (by decide) (by decide) (by decide) (by decide) (by decide) hx
    obtain rfl := pin_z h (by decide)
    rw [sR_3.1] at hT ⊢
    rw [sR_3.2]
    exact pin_text 3 (.inr (.inr (.inl rfl))) hT
  · obtain ⟨rfl, rfl, rfl⟩ := pin_parts h w4 4503599627370496 1024 (by decide) (by decide) (by decide) (by decide) (by decide) hx
    obtain rfl := pin_z h (by decide)
    rw [sR_4.1] at hT ⊢
    rw [sR_4.2]
    exact pin_text 4 (.inr (.inr (.inr rfl))) hT
theorem zero_text (neg : Bool) : NT (gT neg [] 0) (Fl.wordOf neg 0) := by
  refine ⟨.inr (.inr (.inr ⟨neg, 0, 0, ?_, .inl ⟨rfl, rfl⟩⟩)), ?_, ?_, ?_, ?_⟩
  · obtain ⟨j, hj, hl⟩ := lit_g neg [] 0 (by simp) (by decide) (fun _ => rfl) (by omega)
    have : dva 0 [] * 10 ^ j = 0 := by show 0 * _ = 0; rw [Nat.zero_mul]
    rw [this] at hl
    have hj0 : (0 : Int) - (([] : List UInt8).length : Nat) - j = 0 := by
      rcases hj with rfl | h
      · rfl
      · exact h
    rw [hj0] at hl
    exact hl
  all_goals (intro hx; cases neg <;> exact absurd hx (by decide))
end Go.Proofs.YtgmbjdoifkjdhaaGreatDoor
