/- fmtEFG: the form without an exponent. -/
import Derived.Test.YtgmbjdoifkjdhaaGreatDoorFa
namespace Go.Proofs.YtgmbjdoifkjdhaaGreatDoor
open Go.RowKit

/-- The whole part. -/
def ipT (ds : List UInt8) (dp : Int) : List UInt8 := if 0 < dp then ds.take dp.toNat ++ List.replicate (dp.toNat - ds.length) 48 else [48]
/-- The dot and what stands behind it. -/
def frT (ds : List UInt8) (dp : Int) : List UInt8 := if dp < ds.length then 46 :: (List.replicate (-dp).toNat 48 ++ ds.drop dp.toNat) else []
theorem fT_eq (ds : List UInt8) (dp : Int) : fT ds dp = ipT ds dp ++ frT ds dp := rfl
theorem rep_snoc (k : Nat) (c : UInt8) : List.replicate k c ++ [c] = List.replicate (k + 1) c := by
  rw [List.replicate_succ']
theorem take_snoc' {ds : List UInt8} {k : Nat} {c : UInt8} (h : ds[k]? = some c) : ds.take k ++ [c] = ds.take (k + 1) := by
  rw [List.take_add_one, h]; rfl
theorem gT_f (neg : Bool) (ds : List UInt8) (dp : Int) (h : ¬ (dp < -3 ∨ 6 < dp)) : gT neg ds dp = (if neg then [45] else []) ++ (ipT ds dp ++ frT ds dp) := by
  simp only [gT, if_neg h]; rfl
set_option maxRecDepth 100000 in
set_option maxHeartbeats 8000000 in
theorem efg_f (d g : Nat) (neg : Bool) (ds : List UInt8) (dp : Int) (w : World) (hD : Dst d [] w w) (hds : DigAt g ds w) (hg : g ≠ d) (h1 : 0 < ds.length) (h2 : ds.length ≤ 17) (hd0 : -3 ≤ dp) (hd1 : dp ≤ 6) :
    Calls Tryz.prog 95 #[.slice (some ⟨d, 0, none⟩) 0 24, .bool neg, .slice (some ⟨g, 0, none⟩) 32 32, .int .i64 dp, .int .i64 ds.length, .int .i64 ds.length, .int .u8 103, .bool true] w (EfgOut d (gT neg ds dp) w) := by
  obtain ⟨i0, hi, hz0, hz1, hz2⟩ := info_parts info5
  obtain ⟨n, hn⟩ : ∃ n, ds.length = n := ⟨_, rfl⟩
  rw [hn] at h1 h2
  rw [hn]
  have hgT : Hid (gT neg ds dp = (if neg then [45] else []) ++ (ipT ds dp ++ frT ds dp)) := hide (gT_f neg ds dp (by omega))
  replace hD := hide hD
  replace hds := hide hds
  have hn1 : ¬ n < n := by omega
  have hx1 : ¬ dp - 1 < -4 := by omega
  have hx2 : ¬ 6 ≤ dp - 1 := by omega
  replace hn := hide hn
  go_enter Tryz.func95, Tryz.ntmps95
  go_upto_if 36 with (fail)
  go_cut [5, 6] (fun s5 s6 w' => (s5 = .int .i64 ((n - dp).toNat : Nat) ∧ s6 = .int .u8 102) ∧ w = w')
  case first =>
    as_aux_lemma =>
    by_cases hnd : dp < n
    · have hm : ¬ (n : Int) - dp < 0 := by omega
      go_wp2
      go_meet; case rel => exact ⟨⟨vint (by omega), rfl⟩, rfl⟩
    · have hm : (n : Int) - dp ≤ 0 := by omega
      go_wp2
      go_meet; case rel => exact ⟨⟨vint (by omega), rfl⟩, rfl⟩
  case rest =>
  as_aux_lemma =>
  obtain ⟨⟨rfl, rfl⟩, rfl⟩ := hcut
  clear hx1 hx2
  obtain ⟨pr, hpr⟩ : ∃ pr, ((n : Int) - dp).toNat = pr := ⟨_, rfl⟩
  rw [hpr]
  replace hpr := hide hpr
  go_upto_if 178 with (fail)
  go_cut [0] (fun s0 wq => ∃ l, s0 = .slice (some ⟨d, 0, none⟩) l.length 24 ∧ l.length ≤ 1 ∧ Hid (l = if neg then [45] else []) ∧ Hid (Dst d l w wq))
  case first =>
    as_aux_lemma =>
    cases neg
    · go_wp2
      go_meet; case rel => exact ⟨[], rfl, by decide, hide rfl, hD⟩
    · go_wp2_with (first | (at_builtin; refine wpList_app1 hi hz1 rfl _ _ rfl d [] w _ hD.out 45 45 rfl _ _ rfl rfl rfl rfl (by decide) ?_; intro w1 hD1; replace hD1 := hide hD1))
      go_meet; case rel => exact ⟨[45], rfl, by decide, hide rfl, hD1⟩
  case rest =>
  as_aux_lemma =>
  obtain ⟨l1, rfl, hl1, he1, hD1⟩ := hcut
  go_upto_if 183 with (fail)
  go_cut [0] (fun s0 wq => ∃ l, s0 = .slice (some ⟨d, 0, none⟩) l.length 24 ∧ l.length ≤ 1 + (if 0 < dp then dp.toNat else 1) ∧ Hid (l = (if neg then [45] else []) ++ ipT ds dp) ∧ Hid (Dst d l w wq))
  case first =>
    as_aux_lemma =>
    by_cases hp : 0 < dp
    · obtain ⟨q, rfl⟩ : ∃ q : Nat, dp = q := ⟨dp.toNat, by omega⟩
      obtain ⟨m, hm1, hm2, hm3⟩ : ∃ m : Nat, m ≤ n ∧ m ≤ q ∧ (m = n ∨ m = q) := by
        rcases Nat.le_total n q with h | h
        · exact ⟨n, Nat.le_refl _, h, .inl rfl⟩
        · exact ⟨q, h, Nat.le_refl _, .inr rfl⟩
      have hmin : min (n : Int) (q : Int) = (m : Int) := by omega
      have hpb : decide (0 < (q : Int)) = true := by simpa using hp
      rw [hpb]
      go_upto_block 4 with (fail)
      go_cut [0] (fun s0 wq => ∃ l, s0 = .slice (some ⟨d, 0, none⟩) l.length 24 ∧ l.length = l1.length + m ∧ Hid (l = l1 ++ ds.take m) ∧ Hid (Dst d l w wq))
      case first =>
        as_aux_lemma =>
        go_wp2
        go_loopw [0, 25, 191] (fun s0 _ s191 wr => ∃ (k : Nat) (l : List UInt8), s191 = .int .i64 k ∧ k ≤ m ∧ s0 = .slice (some ⟨d, 0, none⟩) l.length 24 ∧ l.length = l1.length + k ∧ Hid (l = l1 ++ ds.take k) ∧ Hid (Dst d l w wr)) (fun _ _ s191 _ => m - (intOf s191).toNat)
        case atStart => exact ⟨0, l1, rfl, Nat.zero_le _, rfl, rfl, hide (by simp), hD1⟩
        case round =>
          obtain ⟨k, l, rfl, hk, rfl, hl, he, hDr⟩ := hrel
          by_cases hlt : k < m
          · obtain ⟨c, hc⟩ : ∃ c, ds[k]? = some c := ⟨ds[k]'(by rw [hn.out]; omega), List.getElem?_eq_getElem (by rw [hn.out]; omega)⟩
            have hcc := hDr.out.cell (hds.out k c hc) hg
            replace hc := hide hc
            replace hl := hide hl
            have hlen : l.length + 1 ≤ 24 := by rw [hl.out]; omega
            go_wp2_with (first | (at_builtin; refine wpList_app1 hi hz1 rfl _ _ rfl d l w _ hDr.out c _ rfl _ _ rfl rfl rfl rfl hlen ?_; intro w2 hD2; replace hD2 := hide hD2))
            refine ⟨⟨k + 1, l ++ [c], rfl, hlt, by simp, ?_, hide ?_, hD2⟩, by simp [intOf]; omega⟩
            · rw [List.length_append, hl.out]; rfl
            · rw [he.out, List.append_assoc, take_snoc' hc.out]
          · have hkm : k = m := by omega
            subst hkm
            replace hl := hide hl
            go_wp2
            go_meet; case rel => exact ⟨l, rfl, hl.out, he, hDr⟩
      case rest =>
      as_aux_lemma =>
      clear hD1
      obtain ⟨l2, rfl, hl2, he2, hD2⟩ := hcut
      go_upto_block 6 with (fail)
      go_cut [0] (fun s0 wq => ∃ l, s0 = .slice (some ⟨d, 0, none⟩) l.length 24 ∧ l.length = l1.length + q ∧ Hid (l = l1 ++ ds.take m ++ List.replicate (q - m) 48) ∧ Hid (Dst d l w wq))
      case first =>
        as_aux_lemma =>
        go_wp2
        go_loopw [0, 203] (fun s0 s203 wr => ∃ (k : Nat) (l : List UInt8), s203 = .int .i64 k ∧ k ≤ q - m ∧ s0 = .slice (some ⟨d, 0, none⟩) l.length 24 ∧ l.length = l1.length + m + k ∧ Hid (l = l1 ++ ds.take m ++ List.replicate k 48) ∧ Hid (Dst d l w wr)) (fun _ s203 _ => q - m - (intOf s203).toNat)
        case atStart => exact ⟨0, l2, rfl, Nat.zero_le _, rfl, hl2, hide (by rw [he2.out]; simp), hD2⟩
        case round =>
          obtain ⟨k, l, rfl, hk, rfl, hl, he, hDr⟩ := hrel
          by_cases hlt : (k : Int) < (q : Int) - (m : Int)
          · replace hl := hide hl
            have hlen : l.length + 1 ≤ 24 := by rw [hl.out]; omega
            go_wp2_with (first | (at_builtin; refine wpList_app1 hi hz1 rfl _ _ rfl d l w _ hDr.out 48 48 rfl _ _ rfl rfl rfl rfl hlen ?_; intro w2 hD3; replace hD3 := hide hD3))
            refine ⟨⟨k + 1, l ++ [48], rfl, by omega, by simp, ?_, hide ?_, hD3⟩, by simp [intOf]; omega⟩
            · rw [List.length_append, hl.out]; rfl
            · rw [he.out, List.append_assoc, rep_snoc]
          · have hkm : k = q - m := by omega
            subst hkm
            replace hl := hide hl
            go_wp2
            go_meet; case rel => exact ⟨l, rfl, by have := hl.out; omega, he, hDr⟩
      case rest =>
      as_aux_lemma =>
      obtain ⟨l3, rfl, hl3, he3, hD3⟩ := hcut
      go_wp2
      go_meet; case rel =>
        refine ⟨l3, rfl, by rw [if_pos hp]; omega, hide ?_, hD3⟩
        rw [he3.out, he1.out]
        unfold ipT
        rw [if_pos hp, hn.out, List.append_assoc]
        congr 1
        rcases hm3 with rfl | rfl
        · rw [show (q : Int).toNat = q by omega, List.take_of_length_le (by rw [hn.out]; exact Nat.le_refl _), List.take_of_length_le (by rw [hn.out]; omega)]
        · rw [show (m : Int).toNat = m by omega, show m - n = 0 by omega, Nat.sub_self]
    · have hp2 : ¬ 0 < dp := by omega
      replace hp2 : Hid (¬ 0 < dp) := hide hp2
      go_wp2_with (first | (at_builtin; refine wpList_app1 hi hz1 rfl _ _ rfl d l1 w _ hD1.out 48 48 rfl _ _ rfl rfl rfl rfl (by omega) ?_; intro w2 hD2; replace hD2 := hide hD2))
      go_meet; case rel =>
        have hp3 : ¬ 0 < dp := by have := hp2.out; omega
        refine ⟨l1 ++ [48], by simp, by rw [if_neg hp3]; simp; omega, hide ?_, hD2⟩
        unfold ipT
        rw [he1.out, if_neg hp3]
  case rest =>
  as_aux_lemma =>
  clear hD1 he1 hl1
  obtain ⟨l2, rfl, hl2, he2, hD2⟩ := hcut
  go_upto_if 213 with (fail)
  go_cut [0] (fun s0 wq => ∃ l, s0 = .slice (some ⟨d, 0, none⟩) l.length 24 ∧ Hid (l = (if neg then [45] else []) ++ (ipT ds dp ++ frT ds dp)) ∧ Hid (Dst d l w wq))
  case first =>
    as_aux_lemma =>
    by_cases hf : dp < n
    · obtain ⟨z, hz⟩ : ∃ z : Nat, z = (-dp).toNat := ⟨_, rfl⟩
      obtain ⟨o, ho⟩ : ∃ o : Nat, o = dp.toNat := ⟨_, rfl⟩
      obtain ⟨r, hr⟩ : ∃ r : Nat, r = n - o := ⟨_, rfl⟩
      have hpr' := hpr.out
      have e1 : max 0 (-dp) = (z : Int) := by omega
      have e2 : min (pr : Int) (z : Int) = z := by omega
      have e3 : dp + (z : Int) = o := by omega
      have e4 : (pr : Int) - z = r := by omega
      have e5 : (n : Int) - o = r := by omega
      have e6 : max 0 (r : Int) = r := by omega
      have e7 : 0 < pr := by omega
      have e7b : decide (0 < (pr : Int)) = true := by simpa using e7
      have e8 : z + r + l2.length + 1 ≤ 24 := by
        by_cases h0 : 0 < dp
        · rw [if_pos h0] at hl2; omega
        · rw [if_neg h0] at hl2; omega
      have e9 : o + r = n := by omega
      clear hpr' hl2
      replace hz := hide hz
      replace ho := hide ho
      replace hr := hide hr
      go_upto_block 8 with (first | (at_builtin; refine wpList_app1 hi hz1 rfl _ _ rfl d l2 w _ hD2.out 46 46 rfl _ _ rfl rfl rfl rfl (by omega) ?_; intro w2 hD3; replace hD3 := hide hD3))
      go_cut [0] (fun s0 wq => ∃ l, s0 = .slice (some ⟨d, 0, none⟩) l.length 24 ∧ l.length = l2.length + 1 + z ∧ Hid (l = l2 ++ [46] ++ List.replicate z 48) ∧ Hid (Dst d l w wq))
      case first =>
        as_aux_lemma =>
        go_wp2
        go_loopw [0, 240] (fun s0 s240 wr => ∃ (k : Nat) (l : List UInt8), s240 = .int .i64 k ∧ k ≤ z ∧ s0 = .slice (some ⟨d, 0, none⟩) l.length 24 ∧ l.length = l2.length + 1 + k ∧ Hid (l = l2 ++ [46] ++ List.replicate k 48) ∧ Hid (Dst d l w wr)) (fun _ s240 _ => z - (intOf s240).toNat)
        case atStart => exact ⟨0, l2 ++ [46], rfl, Nat.zero_le _, by simp, by simp, hide (by simp), hD3⟩
        case round =>
          obtain ⟨k, l, rfl, hk, rfl, hl, he, hDr⟩ := hrel
          replace hl := hide hl
          by_cases hlt : k < z
          · have hlen : l.length + 1 ≤ 24 := by rw [hl.out]; omega
            go_wp2_with (first | (at_builtin; refine wpList_app1 hi hz1 rfl _ _ rfl d l w _ hDr.out 48 48 rfl _ _ rfl rfl rfl rfl hlen ?_; intro w2 hD4; replace hD4 := hide hD4))
            refine ⟨⟨k + 1, l ++ [48], rfl, hlt, by simp, ?_, hide ?_, hD4⟩, by simp [intOf]; omega⟩
            · rw [List.length_append, hl.out]; rfl
            · rw [he.out, List.append_assoc, rep_snoc]
          · have hkm : k = z := by omega
            subst hkm
            go_wp2
            go_meet; case rel => exact ⟨l, rfl, hl.out, he, hDr⟩
      case rest =>
      as_aux_lemma =>
      clear hD3
      obtain ⟨l3, rfl, hl3, he3, hD3⟩ := hcut
      go_upto_block 10 with (fail)
      go_cut [0] (fun s0 wq => ∃ l, s0 = .slice (some ⟨d, 0, none⟩) l.length 24 ∧ l.length = l3.length + r ∧ Hid (l = l3 ++ ds.drop o) ∧ Hid (Dst d l w wq))
      case first =>
        as_aux_lemma =>
        go_wp2
        go_loopw [0, 30, 247] (fun s0 _ s247 wr => ∃ (k : Nat) (l : List UInt8), s247 = .int .i64 k ∧ k ≤ r ∧ s0 = .slice (some ⟨d, 0, none⟩) l.length 24 ∧ l.length = l3.length + k ∧ Hid (l = l3 ++ (ds.drop o).take k) ∧ Hid (Dst d l w wr)) (fun _ _ s247 _ => r - (intOf s247).toNat)
        case atStart => exact ⟨0, l3, rfl, Nat.zero_le _, rfl, rfl, hide (by simp), hD3⟩
        case round =>
          obtain ⟨k, l, rfl, hk, rfl, hl, he, hDr⟩ := hrel
          replace hl := hide hl
          by_cases hlt : k < r
          · obtain ⟨c, hc⟩ : ∃ c, ds[o + k]? = some c := ⟨ds[o + k]'(by rw [hn.out]; omega), List.getElem?_eq_getElem (by rw [hn.out]; omega)⟩
            have hcc := hDr.out.cell (hds.out (o + k) c hc) hg
            have hc' : Hid ((ds.drop o)[k]? = some c) := hide (by rw [List.getElem?_drop]; exact hc)
            clear hc
            have hlen : l.length + 1 ≤ 24 := by rw [hl.out]; omega
            go_wp2_with (first | (at_builtin; refine wpList_app1 hi hz1 rfl _ _ rfl d l w _ hDr.out c _ rfl _ _ rfl rfl rfl rfl hlen ?_; intro w2 hD4; replace hD4 := hide hD4))
            refine ⟨⟨k + 1, l ++ [c], rfl, hlt, by simp, ?_, hide ?_, hD4⟩, by simp [intOf]; omega⟩
            · rw [List.length_append, hl.out]; rfl
            · rw [he.out, List.append_assoc, take_snoc' hc'.out]
          · have hkm : k = r := by omega
            subst hkm
            go_wp2
            go_meet; case rel => exact ⟨l, rfl, hl.out, hide (by rw [he.out, List.take_of_length_le (by rw [List.length_drop, hn.out]; omega)]), hDr⟩
      case rest =>
      as_aux_lemma =>
      obtain ⟨l4, rfl, hl4, he4, hD4⟩ := hcut
      go_wp2
      refine wp_loop_rounds 1 ?_
      rw [rounds_succ]
      go_wp2
      go_meet; case rel =>
        have hf3 : dp < n := hf
        refine ⟨l4, rfl, hide ?_, hD4⟩
        unfold frT
        rw [he4.out, he3.out, he2.out, hn.out, if_pos hf3, hz.out, ho.out]
        simp
    · have hf2 : ¬ dp < n := by omega
      replace hf2 : Hid (¬ dp < n) := hide hf2
      have hpr' := hpr.out
      have hp0 : pr = 0 := by omega
      subst hp0
      go_wp2
      go_meet; case rel =>
        have hf3 : ¬ dp < n := by have := hf2.out; omega
        refine ⟨l2, rfl, hide ?_, hD2⟩
        unfold frT
        rw [he2.out, hn.out, if_neg hf3, List.append_nil]
  case rest =>
  as_aux_lemma =>
  obtain ⟨l3, rfl, he3, hD3⟩ := hcut
  go_wp2
  go_ret
  have hl : l3 = gT neg ds dp := by rw [he3.out, hgT.out]
  subst hl
  exact ⟨rfl, hD3.out⟩
end Go.Proofs.YtgmbjdoifkjdhaaGreatDoor
