/- setDigits: the digits of a number, the zeros at the end left off. -/
import Derived.Test.YtgmbjdoifkjdhaaGreatDoorFa
namespace Go.Proofs.YtgmbjdoifkjdhaaGreatDoor
open Go.RowKit Go.Sort

theorem dec_small {u : Nat} (h : u < 10) : Lib.decDigits u = [UInt8.ofNat (48 + u)] := by rw [Lib.decDigits, dif_pos h]
theorem dec_big {u : Nat} (h : ¬ u < 10) : Lib.decDigits u = Lib.decDigits (u / 10) ++ [UInt8.ofNat (48 + u % 10)] := by rw [Lib.decDigits, dif_neg h]
theorem dec_val (u : Nat) : dva 0 (Lib.decDigits u) = u := by
  induction u using Nat.strongRecOn with
  | _ u ih =>
    by_cases h : u < 10
    · rw [dec_small h]
      show 0 * 10 + ((dg u).toNat - 48) = u
      rw [dg_nat h]; omega
    · rw [dec_big h, dva_cat, ih (u / 10) (by omega)]
      show u / 10 * 10 + ((dg (u % 10)).toNat - 48) = u
      rw [dg_nat (by omega)]; omega
theorem dec_isD (u : Nat) : ∀ c ∈ Lib.decDigits u, isD c := by
  induction u using Nat.strongRecOn with
  | _ u ih =>
    intro c hc
    by_cases h : u < 10
    · rw [dec_small h] at hc
      rw [List.mem_singleton.mp hc]
      exact dg_isD h
    · rw [dec_big h] at hc
      rcases List.mem_append.mp hc with hc | hc
      · exact ih (u / 10) (by omega) c hc
      · rw [List.mem_singleton.mp hc]
        exact dg_isD (by omega)
theorem dec_len (u : Nat) : (Lib.decDigits u).length = Lib.nDigits u := by rw [Lib.decDigits_eq]; simp
theorem dec_at (u i : Nat) (h : i < Lib.nDigits u) : (Lib.decDigits u)[i]? = some (Lib.dg u (Lib.nDigits u - 1 - i)) := by
  rw [Lib.decDigits_eq, List.getElem?_map, List.getElem?_range h]; rfl
theorem ndig_17 {u : Nat} (h : u < 100000000000000000) : Lib.nDigits u ≤ 17 := by
  apply Nat.le_of_not_lt
  intro hlt
  have h1 := dec_val u
  obtain ⟨k, hk⟩ : ∃ k, Lib.nDigits u = k + 1 := ⟨Lib.nDigits u - 1, by omega⟩
  rcases Nat.lt_or_ge u (10 ^ 17) with h2 | h2
  · -- the digits of a number below 10^17 are 17 at most
    have key : ∀ m u, u < 10 ^ (m + 1) → Lib.nDigits u ≤ m + 1 := by
      intro m
      induction m with
      | zero => intro u hu; rw [Lib.nDigits_small (by simpa using hu)]; omega
      | succ m ih =>
        intro u hu
        by_cases hs : u < 10
        · rw [Lib.nDigits_small hs]; omega
        · rw [Lib.nDigits_big hs]
          have := ih (u / 10) (by rw [Nat.pow_succ] at hu; omega)
          omega
    have := key 16 u h2
    omega
  · omega
/-- The zeros at the end are left off. -/
structure Trim (ds : List UInt8) (nz : Nat) : Prop where
  le : nz ≤ ds.length
  zero : ∀ i, nz ≤ i → i < ds.length → ds[i]? = some 48
  last : nz ≠ 0 → ds[nz - 1]? ≠ some 48
theorem trim_val {ds : List UInt8} {nz : Nat} (h : Trim ds nz) : dva 0 (ds.take nz) * 10 ^ (ds.length - nz) = dva 0 ds := by
  have e : ds = ds.take nz ++ List.replicate (ds.length - nz) 48 := by
    apply List.ext_getElem?
    intro i
    by_cases h1 : i < nz
    · rw [List.getElem?_append_left (by rw [List.length_take]; have := h.le; omega), List.getElem?_take_of_lt h1]
    · by_cases h2 : i < ds.length
      · rw [h.zero i (by omega) h2, List.getElem?_append_right (by rw [List.length_take]; omega), List.getElem?_replicate, if_pos (by rw [List.length_take]; have := h.le; omega)]
      · rw [List.getElem?_eq_none (by omega), List.getElem?_eq_none (by rw [List.length_append, List.length_take, List.length_replicate]; have := h.le; omega)]
  conv => rhs; rw [e]
  rw [dva_cat, dva_zeros]
def SdRes (ds : List UInt8) (n : Nat) (p : Int) (v : Value) : Prop := ∃ nz : Nat, v = .tuple #[.int .i64 ((n : Int) + p), .int .i64 nz] ∧ Trim ds nz
def encB : UInt8 → Value := fun (b : UInt8) => Value.int .u8 (b.toNat : Int)
theorem putRow_below (w : World) (g : Nat) (dk : Array UInt8) : Below g w (putRow encB w g 0 dk) := by
  refine ⟨rfl, rfl, rfl, ?_, ?_⟩
  · simp [putRow, mapBlock]
  · intro k hk
    simp [putRow, mapBlock, Array.getElem?_modify, show g ≠ k by omega]
set_option maxHeartbeats 1000000 in
theorem setd_any (g u : Nat) (p : Int) (w : World) (hu : u < 100000000000000000) (hp0 : -1000 ≤ p) (hp1 : p ≤ 1000) (hb : ∀ j, j < 32 → w.cell? ⟨g, j, none⟩ = some (.int .u8 0) ∧ w.frozen? ⟨g, j, none⟩ = false) :
    Calls Tryz.prog 98 #[.slice (some ⟨g, 0, none⟩) 32 32, .int .u64 u, .int .i64 p, .int .i64 (Lib.nDigits u : Nat)] w fun e w' => (∃ v, e = .returned v ∧ SdRes (Lib.decDigits u) (Lib.nDigits u) p v) ∧ DigAt g (Lib.decDigits u) w' ∧ Below g w w' := by
  have hn17 := ndig_17 hu
  have hlen := dec_len u
  obtain ⟨n, hn⟩ : ∃ n, Lib.nDigits u = n := ⟨_, rfl⟩
  obtain ⟨ds, hds⟩ : ∃ ds, Lib.decDigits u = ds := ⟨_, rfl⟩
  have hH : Holds encB w g 0 (Array.replicate n (0 : UInt8)) := by
    intro j hj
    rw [Array.size_replicate] at hj
    have := hb j (by omega)
    rw [Nat.zero_add, getElem!_pos _ j (by simpa using hj), Array.getElem_replicate]
    exact this
  have hK : Hid (Calls Tryz.prog 123 #[.slice (some ⟨g, 0, none⟩) n 32, .int .u64 u] w fun e w' => e = .returned (.tuple #[]) ∧ DigAt g ds w' ∧ Below g w w') := hide (by
    have h1 := Tryz.internal_strconv_formatBase10 g 0 32 u (Array.replicate n (0 : UInt8)) w hH (by rw [Array.size_replicate, ← hn]; exact Lib.lt_pow_nDigits u) (by omega) (by rw [Array.size_replicate]; omega)
    rw [Array.size_replicate] at h1
    refine h1.mono ?_
    rintro e w' ⟨rfl, k, v', dk, rfl, hf⟩
    refine ⟨rfl, fun i c hc => ?_, below_drewN (putRow_below w g dk) k⟩
    have hi : i < n := by
      have := (List.getElem?_eq_some_iff.mp hc).1
      rw [← hds, hlen, hn] at this; exact this
    have h2 := cell?_putRow encB w g 0 _ dk hH (by rw [hf.size, Array.size_replicate]) i (by rw [hf.size]; exact hi)
    rw [Nat.zero_add] at h2
    have h3 := hf.done i (Nat.zero_le _) hi
    rw [h3] at h2
    have h4 := dec_at u i (by rw [hn]; exact hi)
    rw [hds, hc, hn] at h4
    injection h4 with h4
    rw [h4]
    exact h2)
  rw [hn, hds] at hlen
  rw [hn, hds]
  replace hlen := hide hlen
  have hT0 : Hid (∀ i, n ≤ i → i < n → ds[i]? = some 48) := hide fun i h1 h2 => absurd h2 (by omega)
  rw [hn] at hn17
  clear hH hb hn hds hu
  go_enter Tryz.func98, Tryz.ntmps98
  go_wp2_with (first
    | (go_at_call 123; (with_reducible refine hK.out.mono ?_); rintro e w1 ⟨rfl, hd, hbl⟩; replace hd := hide hd; replace hbl := hide hbl))
  go_loop [3] (fun s3 => ∃ j : Nat, j ≤ n ∧ s3 = .int .i64 j ∧ Hid (∀ i, j ≤ i → i < n → ds[i]? = some 48)) (fun s3 => (intOf s3).toNat)
  case atStart => exact ⟨n, Nat.le_refl _, rfl, hT0⟩
  case round =>
    obtain ⟨j, hj, rfl, hT⟩ := hrel
    by_cases h0 : j = 0
    · subst h0
      go_wp2
      go_ret2
      exact ⟨⟨_, rfl, 0, rfl, ⟨Nat.zero_le _, fun i h1 h2 => hT.out i h1 (by rw [← hlen.out]; exact h2), fun h => absurd rfl h⟩⟩, hd.out, hbl.out⟩
    · obtain ⟨q, rfl⟩ : ∃ q, j = q + 1 := ⟨j - 1, by omega⟩
      obtain ⟨c, hc⟩ : ∃ c, ds[q]? = some c := ⟨ds[q]'(by rw [hlen.out]; omega), List.getElem?_eq_getElem (by rw [hlen.out]; omega)⟩
      have hcc := hd.out q c hc
      by_cases hc48 : (c.toNat : Int) = 48
      · have hcb : ((c.toNat : Int) == 48) = true := by simp [hc48]
        have hc2 : c = 48 := UInt8.toNat_inj.mp (by rw [t48]; omega)
        subst hc2
        have hT2 : Hid (∀ i, q ≤ i → i < n → ds[i]? = some 48) := hide fun i h1 h2 => by
          by_cases hi : i = q
          · rw [hi]; exact hc
          · exact hT.out i (by omega) h2
        clear hc
        go_wp2
        exact ⟨⟨q, by omega, rfl, hT2⟩, by simp [intOf]⟩
      · have hcb : ((c.toNat : Int) == 48) = false := by simpa using hc48
        replace hc := hide hc
        replace hc48 := hide hc48
        go_wp2
        go_ret2
        refine ⟨⟨_, rfl, q + 1, rfl, ⟨by rw [hlen.out]; exact hj, fun i h1 h2 => hT.out i h1 (by rw [← hlen.out]; exact h2), fun _ h => ?_⟩⟩, hd.out, hbl.out⟩
        rw [Nat.add_sub_cancel, hc.out] at h
        injection h with h
        subst h
        exact hc48.out rfl
end Go.Proofs.YtgmbjdoifkjdhaaGreatDoor
