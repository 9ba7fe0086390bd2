/- wkt: polygons. wkt: a collection, and all. MarshalString and Write. -/
import Derived.Test.YtgmbjdoifkjdhaaGreatDoorKs
import Derived.Deep.DeepCutAuto
import Derived.Deep.CutBlock
section
namespace Go.Proofs.YtgmbjdoifkjdhaaGreatDoor
open Go.RowKit

theorem cpol_take {xs : List (List (List (Nat × Nat)))} {k : Nat} {rs : List (List (Nat × Nat))} (h : xs[k]? = some rs) : cpol (xs.take (k + 1)) = cpol (xs.take k) + (crow rs + 1) := by
  rw [take_one h]; simp [cpol]
theorem cpol_app (a b : List (List (List (Nat × Nat)))) : cpol (a ++ b) = cpol a + cpol b := by simp [cpol]
theorem cpol_le (xs : List (List (List (Nat × Nat)))) (k : Nat) : cpol (xs.take k) ≤ cpol xs := by
  have h := congrArg cpol (List.take_append_drop k xs)
  rw [cpol_app] at h
  omega
theorem cpol_len (xs : List (List (List (Nat × Nat)))) : xs.length ≤ cpol xs := by
  induction xs with
  | nil => simp [cpol]
  | cons r rs ih =>
    have h := cpol_app [r] rs
    have h2 : cpol [r] = crow r + 1 := by simp [cpol]
    rw [List.length_cons, show r :: rs = [r] ++ rs from rfl, h, h2]
    omega
theorem Root.poly {B : Nat} {ao : Option Addr} {n c k : Nat} {xs : List (List (List (Nat × Nat)))} {rs : List (List (Nat × Nat))} {w : World} (h : Root B (IsSl 1 PolyIt (.slice ao n c) xs) w) (hps : xs[k]? = some rs) :
    ∃ b u, ao = some ⟨b, 0, none⟩ ∧ (∀ w', Below B w w' → w'.cell? ⟨b, k, none⟩ = some u) ∧ Root B (IsSl 1 RowIt u rs) w := by
  obtain ⟨w0, rfl, h1, h2⟩ := h
  obtain ⟨ao', cap', he, hcell⟩ := polys_at h1.get
  injection he with he1 _ he2
  subst he1; subst he2
  obtain ⟨b, u, rfl, hcu, hup⟩ := hcell k rs hps
  refine ⟨b, u, rfl, fun w' hw => cell_up (h2.trans hw) hcu, w0, rfl, fun w5 h5 => ?_, h2⟩
  obtain ⟨ao5, cap5, he5, hcell5⟩ := polys_at (h1 _ h5)
  injection he5 with h6 _ _
  subst h6
  obtain ⟨b5, u5, h7, h8, h9⟩ := hcell5 k rs hps
  injection h7 with h7
  injection h7 with h7
  subst h7
  have h10 := cell_up h5 hcu
  rw [h8] at h10
  injection h10 with h10
  rw [← h10]; exact h9
/-- What parts one piece from those before it. -/
def sep (ls : List (List UInt8)) : List UInt8 := if ls = [] then [] else [44]
theorem jn_sep (ls : List (List UInt8)) (p : List UInt8) : jn (ls ++ [p]) = jn ls ++ (sep ls ++ p) := by
  unfold sep
  by_cases h : ls = []
  · subst h; simp [jn]
  · rw [if_neg h, jn_snoc p h]; rfl
theorem sep_len (ls : List (List UInt8)) : (sep ls).length ≤ 1 := by unfold sep; split <;> simp
theorem sep_zero {X : Type} {R : List UInt8 → X → Prop} {ls : List (List UInt8)} {xs : List X} {k : Nat} (h : All2 R ls (xs.take k)) (hk : k = 0) : sep ls = [] := by
  subst hk
  have h2 : All2 R ls [] := by simpa using h
  rw [all2_nil h2]; rfl
theorem sep_pos {X : Type} {R : List UInt8 → X → Prop} {ls : List (List UInt8)} {xs : List X} {k : Nat} (h : All2 R ls (xs.take k)) (hk : k ≠ 0) (hl : k ≤ xs.length) : sep ls = [44] := by
  unfold sep
  rw [if_neg]
  intro he
  subst he
  have h2 := h.len
  rw [List.length_take, List.length_nil] at h2
  omega
set_option maxHeartbeats 1000000 in
set_option maxRecDepth 100000 in
theorem wkt_mpoly0 {NT : List UInt8 → Nat → Prop} (B b : Nat) (l : List UInt8) (ao : Option Addr) (cap : Nat) (w : World) (hB : Buf B b l w) (hl : l.length + 64 ≤ 140737488355328) :
    Calls Tryz.prog 18 #[.pointer (some ⟨b, 0, none⟩), .iface 58 (.slice ao 0 cap)] w (WkOut NT B b l (.mpoly []) 1 w) := by
  have t0 := ta_58_47
  have t1 := ta_58_50
  have t2 := ta_58_54
  have t3 := ta_58_56
  have t4 := ta_58_86
  have t5 := ta_58_52
  have t6 := ta_58_58
  replace hB := hide hB
  have kc := fun (w : World) (C : Array Value) (n c : Nat) => Lib.run_convert_bytes_const (P := Tryz.prog) w 66 5 C n c under66 under5
  go_enter Tryz.func18, Tryz.ntmps18
  go_wp2_with (first
    | (go_at_call 35; refine (wlit_any B b l (kMpoly ++ emp) 18 _ _ _ w hB.out rfl rfl (by omega)).mono ?_; rintro e w2 ⟨rfl, hB2, hb2⟩))
  go_end0
  exact ⟨rfl, ⟨_, .mpoly0, hB2, by decide⟩, hb2⟩
set_option maxHeartbeats 4000000 in
set_option maxRecDepth 100000 in
theorem wkt_mpoly1 {NT : List UInt8 → Nat → Prop} (N : NumOut NT) (G B b : Nat) (l : List UInt8) (v : Value) (xs : List (List (List (Nat × Nat)))) (w : World) (hG : Glob G w) (hGB : G ≤ B) (hB : Buf B b l w) (hv : Root B (IsSl 1 PolyIt v xs) w)
    (hgood : ∀ rs ∈ xs, rs ≠ [] ∧ ∀ r ∈ rs, GoodRing r) (hne : xs ≠ []) (hl : l.length + 64 * (cpol xs + 1) ≤ 140737488355328) :
    Calls Tryz.prog 18 #[.pointer (some ⟨b, 0, none⟩), .iface 58 v] w (WkOut NT B b l (.mpoly xs) (cpol xs + 1) w) := by
  have t0 := ta_58_47
  have t1 := ta_58_50
  have t2 := ta_58_54
  have t3 := ta_58_56
  have t4 := ta_58_86
  have t5 := ta_58_52
  have t6 := ta_58_58
  obtain ⟨ao, cap, rfl, _⟩ := polys_at hv.stayB.get
  have hn0 : 0 < xs.length := List.length_pos_iff.mpr hne
  have hrl := cpol_len xs
  have hBs := hB.2
  replace hB := hide hB
  replace hG := hide hG
  replace hgood := hide hgood
  replace hvB := hide hv
  clear hv
  have hkm : kMpoly.length = 12 := rfl
  have kc := fun (w : World) (C : Array Value) (n c : Nat) => Lib.run_convert_bytes_const (P := Tryz.prog) w 66 5 C n c under66 under5
  go_enter Tryz.func18, Tryz.ntmps18
  go_wp2_with (first
    | (go_at_call 35; refine (wlit_any B b l (kMpoly ++ [40]) 13 _ _ _ w hB.out rfl rfl (by omega)).mono ?_; rintro e w1 ⟨rfl, hB1, hb1⟩; (replace hb1 := hide hb1); (replace hB1 := hide hB1)))
  go_loopw [186] (fun i wr => ∃ (k : Nat) (ls : List (List UInt8)), k ≤ xs.length ∧ i = .int .i64 k ∧ Hid (All2 (PolyT NT) ls (xs.take k)) ∧ Hid (Buf B b ((l ++ kMpoly) ++ 40 :: jn ls) wr) ∧ (jn ls).length ≤ 64 * cpol (xs.take k) ∧ Hid (Below B w wr))
    (fun i _ => xs.length - (intOf i).toNat)
  case atStart => exact ⟨0, [], Nat.zero_le _, rfl, hide (by simpa using All2.nil), hide (by simpa [jn] using hB1.out), by simp [jn], hb1⟩
  case round =>
    obtain ⟨k, ls, hk, rfl, hls, hBr, hlen, hbr⟩ := hrel
    by_cases hlt : k < xs.length
    · obtain ⟨rs, hps⟩ : ∃ p, xs[k]? = some p := ⟨_, List.getElem?_eq_getElem hlt⟩
      have hg2 := hide (hgood.out rs (List.mem_of_getElem? hps))
      have hcr := cpol_take hps
      have hcl := cpol_le xs (k + 1)
      have hsl := sep_len ls
      obtain ⟨bb, u, rfl, hcu, hup⟩ := hvB.out.poly hps
      have hcu1 := hcu wr hbr.out
      obtain ⟨ua, uc, rfl, _⟩ := rows_at hup.stayB.get
      clear hcu
      replace hup := hide hup
      replace hps := hide hps
      go_upto_if 192 with (fail)
      go_cut [] (fun wq => Hid (Buf B b ((l ++ kMpoly) ++ 40 :: (jn ls ++ sep ls)) wq) ∧ Hid (Below B w wq))
      case first =>
        by_cases hk0 : k = 0
        · have hs0 := sep_zero hls.out hk0
          subst hk0
          go_wp2
          go_meet; case rel => exact ⟨hide (by rw [hs0, List.append_nil]; exact hBr.out), hbr⟩
        · have hs0 := sep_pos hls.out hk0 (by omega)
          go_wp2_with (first
            | (go_at_call 36; refine (wbyte_any B b _ 44 44 rfl _ hBr.out (by simp only [List.length_append, List.length_cons] at *; omega)).mono ?_; rintro e wq ⟨rfl, hBq, hbq, _⟩))
          go_meet; case rel => exact ⟨hide (by rw [hs0]; simpa using hBq), hide (hbr.out.trans hbq)⟩
      case rest =>
        obtain ⟨hBq, hbq⟩ := hcut
        go_wp2_with (first
          | (go_at_call 36; refine (wbyte_any B b _ 40 40 rfl _ hBq.out (by simp only [List.length_append, List.length_cons] at *; omega)).mono ?_; rintro e wp ⟨rfl, hBp, hbp, _⟩; (replace hBp := hide hBp); (replace hbp := hide (hbq.out.trans hbp))))
        go_loopw [199] (fun i wr => ∃ (k2 : Nat) (qs : List (List UInt8)), k2 ≤ rs.length ∧ i = .int .i64 k2 ∧ Hid (All2 (RingT NT) qs (rs.take k2)) ∧ Hid (Buf B b (((l ++ kMpoly) ++ 40 :: (jn ls ++ sep ls)) ++ 40 :: jn qs) wr) ∧ (jn qs).length ≤ 64 * crow (rs.take k2) ∧ Hid (Below B w wr))
          (fun i _ => rs.length - (intOf i).toNat)
        case atStart => exact ⟨0, [], Nat.zero_le _, rfl, hide (by simpa using All2.nil), hide (by simpa [jn] using hBp.out), by simp [jn], hbp⟩
        case round =>
          obtain ⟨k2, qs, hk2, rfl, hqs, hBr2, hlen2, hbr2⟩ := hrel
          have hrl2 := crow_len rs
          by_cases hlt2 : k2 < rs.length
          · obtain ⟨ps, hps2⟩ : ∃ p, rs[k2]? = some p := ⟨_, List.getElem?_eq_getElem hlt2⟩
            have hg3 := hide (hg2.out.2 ps (List.mem_of_getElem? hps2))
            have hcr2 := crow_take hps2
            have hcl2 := crow_le rs (k2 + 1)
            have hsl2 := sep_len qs
            obtain ⟨b3, u3, rfl, hcu3, hup3⟩ := hup.out.row hps2
            have hcu4 := hcu3 wr hbr2.out
            clear hcu3
            replace hup3 := hide hup3
            replace hps2 := hide hps2
            go_upto_if 205 with (fail)
            go_cut [] (fun wq => Hid (Buf B b (((l ++ kMpoly) ++ 40 :: (jn ls ++ sep ls)) ++ 40 :: (jn qs ++ sep qs)) wq) ∧ Hid (Below B w wq))
            case first =>
              by_cases hk0 : k2 = 0
              · have hs0 := sep_zero hqs.out hk0
                subst hk0
                go_wp2
                go_meet; case rel => exact ⟨hide (by rw [hs0, List.append_nil]; exact hBr2.out), hbr2⟩
              · have hs0 := sep_pos hqs.out hk0 (by omega)
                go_wp2_with (first
                  | (go_at_call 36; refine (wbyte_any B b _ 44 44 rfl _ hBr2.out (by simp only [List.length_append, List.length_cons] at *; omega)).mono ?_; rintro e wq ⟨rfl, hBq, hbq, _⟩))
                go_meet; case rel => exact ⟨hide (by rw [hs0]; simpa using hBq), hide (hbr2.out.trans hbq)⟩
            case rest =>
              obtain ⟨hBq2, hbq2⟩ := hcut
              go_wp2_with (first
                | (go_at_call 37; refine (wls_any N G B b _ _ ps _ (hG.out.below (hbq2.out.mono hGB)) hGB hBq2.out ((hup3.out.below hbq2.out).stayB.stay hBq2.out.2) (hup3.out.below hbq2.out).stayB hg3.out.2 (by simp only [List.length_append, List.length_cons] at *; omega)).mono ?_; rintro e w4 ⟨rfl, ⟨ms, hms, hB4, hlq⟩, hb4⟩))
              have hp : RingT NT (br (jn ms)) ps := ⟨ms, all2_ne hms hg3.out.1, hms, rfl⟩
              refine ⟨⟨k2 + 1, qs ++ [br (jn ms)], hlt2, rfl, hide ?_, hide ?_, ?_, hide (hbq2.out.trans hb4)⟩, by simp [intOf]; omega⟩
              · rw [take_one hps2.out]; exact hqs.out.snoc hp
              · rw [jn_sep]; simpa using hB4
              · rw [jn_sep, List.length_append, List.length_append]; omega
          · have hkk : k2 = rs.length := by omega
            have hcl2 := crow_le rs k2
            go_wp2_with (first
              | (go_at_call 36; (with_reducible refine (wbyte_any B b _ 41 41 rfl _ hBr2.out (by simp only [List.length_append, List.length_cons] at *; omega)).mono ?_); rintro e w5 ⟨rfl, hB5, hb5, _⟩))
            have hall : All2 (RingT NT) qs rs := by have := hqs.out; rwa [hkk, List.take_length] at this
            have hp : PolyT NT (br (jn qs)) rs := ⟨qs, all2_ne hall hg2.out.1, hall, rfl⟩
            refine ⟨⟨k + 1, ls ++ [br (jn qs)], hlt, rfl, hide ?_, hide ?_, ?_, hide (hbr2.out.trans hb5)⟩, by simp [intOf]; omega⟩
            · rw [take_one hps.out]; exact hls.out.snoc hp
            · rw [jn_sep]; simpa [br] using hB5
            · rw [jn_sep, List.length_append, List.length_append]
              simp only [br, List.length_cons, List.length_append, List.length_nil]
              omega
    · have hkk : k = xs.length := by omega
      have hcl := cpol_le xs k
      go_wp2_with (first
        | (go_at_call 36; (with_reducible refine (wbyte_any B b _ 41 41 rfl _ hBr.out (by simp only [List.length_append, List.length_cons] at *; omega)).mono ?_); rintro e w5 ⟨rfl, hB5, hb5, _⟩))
      go_end0
      have hall : All2 (PolyT NT) ls xs := by have := hls.out; rwa [hkk, List.take_length] at this
      refine ⟨rfl, ⟨_, .mpoly ⟨ls, all2_ne hall hne, hall, rfl⟩, ?_, ?_⟩, hbr.out.trans hb5⟩
      · simpa [br] using hB5
      · simp only [br, List.length_cons, List.length_append, List.length_nil]; omega
end Go.Proofs.YtgmbjdoifkjdhaaGreatDoor
end
section
namespace Go.Proofs.YtgmbjdoifkjdhaaGreatDoor
open Go.RowKit

theorem sum_take {cs : List Nat} {k c : Nat} (h : cs[k]? = some c) : (cs.take (k + 1)).sum = (cs.take k).sum + c := by
  rw [take_one h]; simp
theorem sum_le (cs : List Nat) (k : Nat) : (cs.take k).sum ≤ cs.sum := by
  have h := congrArg List.sum (List.take_append_drop k cs)
  rw [List.sum_append] at h
  omega
theorem Cost.pos {g : Geom} {c : Nat} (h : Cost g c) : 1 ≤ c := by cases h <;> omega
theorem sum_len (cs : List Nat) (h : ∀ c ∈ cs, 1 ≤ c) : cs.length ≤ cs.sum := by
  induction cs with
  | nil => simp
  | cons c cs ih =>
    have h1 := h c (by simp)
    have h2 := ih fun x hx => h x (List.mem_cons_of_mem _ hx)
    rw [List.length_cons, List.sum_cons]; omega
theorem Root.geo {B : Nat} {v : Value} {gs : List Geom} {k : Nat} {g : Geom} {w : World} (h : Root B (fun w => GeoIs w (.iface 60 v) (.coll gs)) w) (hg : gs[k]? = some g) :
    ∃ b c u, v = .slice (some ⟨b, 0, none⟩) gs.length c ∧ (∀ w', Below B w w' → w'.cell? ⟨b, k, none⟩ = some u) ∧ Root B (fun w => GeoIs w u g) w := by
  obtain ⟨w0, rfl, h1, h2⟩ := h
  obtain ⟨ao, cap, rfl, hcell⟩ := coll_at h1.get
  obtain ⟨b, u, rfl, hcu, hup⟩ := hcell k g hg
  refine ⟨b, cap, u, rfl, fun w' hw => cell_up (h2.trans hw) hcu, w0, rfl, fun w5 h5 => ?_, h2⟩
  obtain ⟨ao5, cap5, he5, hcell5⟩ := coll_at (h1 _ h5)
  injection he5 with h6 _ _
  subst h6
  obtain ⟨b5, u5, h7, h8, h9⟩ := hcell5 k g hg
  injection h7 with h7
  injection h7 with h7
  subst h7
  have h10 := cell_up h5 hcu
  rw [h8] at h10
  injection h10 with h10
  rw [← h10]; exact h9
/-- One text a geometry. -/
def Wts (NT : List UInt8 → Nat → Prop) (ls : List (List UInt8)) (gs : List Geom) : Prop := ls.length = gs.length ∧ ∀ (i : Nat) (l : List UInt8) (g : Geom), ls[i]? = some l → gs[i]? = some g → WT NT l g
theorem Wts.snoc {NT : List UInt8 → Nat → Prop} {ls : List (List UInt8)} {gs : List Geom} (h : Wts NT ls gs) {l : List UInt8} {g : Geom} (hl : WT NT l g) : Wts NT (ls ++ [l]) (gs ++ [g]) := by
  refine ⟨by simp [h.1], fun i l' g' h1 h2 => ?_⟩
  by_cases hi : i < ls.length
  · rw [List.getElem?_append_left hi] at h1
    rw [List.getElem?_append_left (by rw [← h.1]; exact hi)] at h2
    exact h.2 i l' g' h1 h2
  · rw [List.getElem?_append_right (by omega)] at h1
    rw [List.getElem?_append_right (by rw [← h.1]; omega)] at h2
    have h0 : i - ls.length = 0 := by have := (List.getElem?_eq_some_iff.mp h1).1; simp at this; omega
    rw [h0] at h1
    rw [← h.1, h0] at h2
    simp at h1 h2
    rw [← h1, ← h2]; exact hl
theorem Wts.zero {NT : List UInt8 → Nat → Prop} {ls : List (List UInt8)} {gs : List Geom} {k : Nat} (h : Wts NT ls (gs.take k)) (hk : k = 0) : sep ls = [] := by
  subst hk
  have h1 := h.1
  have h2 : ls = [] := List.eq_nil_of_length_eq_zero (by simpa using h1)
  rw [h2]; rfl
theorem Wts.pos {NT : List UInt8 → Nat → Prop} {ls : List (List UInt8)} {gs : List Geom} {k : Nat} (h : Wts NT ls (gs.take k)) (hk : k ≠ 0) (hl : k ≤ gs.length) : sep ls = [44] := by
  unfold sep
  rw [if_neg]
  intro he
  subst he
  have h2 := h.1
  rw [List.length_take, List.length_nil] at h2
  omega
set_option maxHeartbeats 1000000 in
set_option maxRecDepth 100000 in
theorem wkt_coll0 {NT : List UInt8 → Nat → Prop} (B b : Nat) (l : List UInt8) (ao : Option Addr) (cap : Nat) (w : World) (hB : Buf B b l w) (hl : l.length + 64 ≤ 140737488355328) :
    Calls Tryz.prog 18 #[.pointer (some ⟨b, 0, none⟩), .iface 60 (.slice ao 0 cap)] w (WkOut NT B b l (.coll []) 1 w) := by
  have t0 := ta_60_47
  have t1 := ta_60_50
  have t2 := ta_60_54
  have t3 := ta_60_56
  have t4 := ta_60_86
  have t5 := ta_60_52
  have t6 := ta_60_58
  have t7 := ta_60_60
  replace hB := hide hB
  have kc := fun (w : World) (C : Array Value) (n c : Nat) => Lib.run_convert_bytes_const (P := Tryz.prog) w 66 5 C n c under66 under5
  go_enter Tryz.func18, Tryz.ntmps18
  go_wp2_with (first
    | (go_at_call 35; refine (wlit_any B b l (kColl ++ emp) 24 _ _ _ w hB.out rfl rfl (by omega)).mono ?_; rintro e w2 ⟨rfl, hB2, hb2⟩))
  go_end0
  exact ⟨rfl, ⟨_, .coll0, hB2, by decide⟩, hb2⟩
set_option maxHeartbeats 4000000 in
set_option maxRecDepth 100000 in
theorem wkt_coll1 {NT : List UInt8 → Nat → Prop} (G B b : Nat) (l : List UInt8) (v : Value) (gs : List Geom) (cs : List Nat) (w : World) (hG : Glob G w) (hGB : G ≤ B) (hB : Buf B b l w) (hv : Root B (fun w => GeoIs w (.iface 60 v) (.coll gs)) w)
    (hcl : cs.length = gs.length) (hc1 : ∀ c ∈ cs, 1 ≤ c) (hne : gs ≠ []) (hl : l.length + 64 * (cs.sum + 1) ≤ 140737488355328)
    (hun : ∀ (i : Nat) (g : Geom) (c : Nat), gs[i]? = some g → cs[i]? = some c → ∀ (l : List UInt8) (u : Value) (w : World), Glob G w → Buf B b l w → Root B (fun w => GeoIs w u g) w → l.length + 64 * c ≤ 140737488355328 → Calls Tryz.prog 18 #[.pointer (some ⟨b, 0, none⟩), u] w (WkOut NT B b l g c w)) :
    Calls Tryz.prog 18 #[.pointer (some ⟨b, 0, none⟩), .iface 60 v] w (WkOut NT B b l (.coll gs) (cs.sum + 1) w) := by
  have t0 := ta_60_47
  have t1 := ta_60_50
  have t2 := ta_60_54
  have t3 := ta_60_56
  have t4 := ta_60_86
  have t5 := ta_60_52
  have t6 := ta_60_58
  have t7 := ta_60_60
  obtain ⟨ao, cap, rfl, _⟩ := coll_at hv.stayB.get
  have hn0 : 0 < gs.length := List.length_pos_iff.mpr hne
  have hrl := sum_len cs hc1
  replace hB := hide hB
  replace hG := hide hG
  replace hun := hide hun
  replace hvB := hide hv
  clear hv hc1
  have hkm : kColl.length = 18 := rfl
  have kc := fun (w : World) (C : Array Value) (n c : Nat) => Lib.run_convert_bytes_const (P := Tryz.prog) w 66 5 C n c under66 under5
  go_enter Tryz.func18, Tryz.ntmps18
  go_wp2_with (first
    | (go_at_call 35; refine (wlit_any B b l (kColl ++ [40]) 19 _ _ _ w hB.out rfl rfl (by omega)).mono ?_; rintro e w1 ⟨rfl, hB1, hb1⟩; (replace hb1 := hide hb1); (replace hB1 := hide hB1)))
  go_loopw [233] (fun i wr => ∃ (k : Nat) (ls : List (List UInt8)), k ≤ gs.length ∧ i = .int .i64 k ∧ Hid (Wts NT ls (gs.take k)) ∧ Hid (Buf B b ((l ++ kColl) ++ 40 :: jn ls) wr) ∧ (jn ls).length ≤ 64 * (cs.take k).sum ∧ Hid (Below B w wr))
    (fun i _ => gs.length - (intOf i).toNat)
  case atStart => exact ⟨0, [], Nat.zero_le _, rfl, hide ⟨by simp, fun i l g h => by simp at h⟩, hide (by simpa [jn] using hB1.out), by simp [jn], hb1⟩
  case round =>
    obtain ⟨k, ls, hk, rfl, hls, hBr, hlen, hbr⟩ := hrel
    by_cases hlt : k < gs.length
    · obtain ⟨g, hps⟩ : ∃ p, gs[k]? = some p := ⟨_, List.getElem?_eq_getElem hlt⟩
      obtain ⟨c, hck⟩ : ∃ p, cs[k]? = some p := ⟨_, List.getElem?_eq_getElem (by omega)⟩
      have hg2 := hide (hun.out k g c hps hck)
      have hcr := sum_take hck
      have hcs := sum_le cs (k + 1)
      have hsl := sep_len ls
      obtain ⟨bb, cc, u, he, hcu, hup⟩ := hvB.out.geo hps
      injection he with he1 _ he2
      subst he1; subst he2
      have hcu1 := hcu wr hbr.out
      clear hcu
      obtain ⟨tu, pu, rfl⟩ := GeoIs.iface hup.stayB.get
      replace hup := hide hup
      replace hps := hide hps
      clear hck
      go_upto_if 239 with (fail)
      go_cut [] (fun wq => Hid (Buf B b ((l ++ kColl) ++ 40 :: (jn ls ++ sep ls)) wq) ∧ Hid (Below B w wq))
      case first =>
        by_cases hk0 : k = 0
        · have hs0 := hls.out.zero hk0
          subst hk0
          go_wp2
          go_meet; case rel => exact ⟨hide (by rw [hs0, List.append_nil]; exact hBr.out), hbr⟩
        · have hs0 := hls.out.pos hk0 (by omega)
          go_wp2_with (first
            | (go_at_call 36; refine (wbyte_any B b _ 44 44 rfl _ hBr.out (by simp only [List.length_append, List.length_cons] at *; omega)).mono ?_; rintro e wq ⟨rfl, hBq, hbq, _⟩))
          go_meet; case rel => exact ⟨hide (by rw [hs0]; simpa using hBq), hide (hbr.out.trans hbq)⟩
      case rest =>
        obtain ⟨hBq, hbq⟩ := hcut
        go_wp2_with (first
          | (go_at_call 18; refine (hg2.out _ _ _ (hG.out.below (hbq.out.mono hGB)) hBq.out (hup.out.below hbq.out) (by simp only [List.length_append, List.length_cons] at *; omega)).mono ?_; rintro e w4 ⟨rfl, ⟨l', hw', hB4, hlq⟩, hb4⟩))
        refine ⟨⟨k + 1, ls ++ [l'], hlt, rfl, hide ?_, hide ?_, ?_, hide (hbq.out.trans hb4)⟩, by simp [intOf]; omega⟩
        · rw [take_one hps.out]; exact hls.out.snoc hw'
        · rw [jn_sep]; simpa using hB4
        · rw [jn_sep, List.length_append, List.length_append]; omega
    · have hkk : k = gs.length := by omega
      have hcs := sum_le cs k
      go_wp2_with (first
        | (go_at_call 36; (with_reducible refine (wbyte_any B b _ 41 41 rfl _ hBr.out (by simp only [List.length_append, List.length_cons] at *; omega)).mono ?_); rintro e w5 ⟨rfl, hB5, hb5, _⟩))
      go_end0
      have hall : Wts NT ls gs := by have := hls.out; rwa [hkk, List.take_length] at this
      refine ⟨rfl, ⟨_, .coll ?_ hall.1 hall.2, ?_, ?_⟩, hbr.out.trans hb5⟩
      · rintro rfl
        have := hall.1
        simp at this
        exact hne (List.eq_nil_of_length_eq_zero this.symm)
      · simpa [br] using hB5
      · simp only [br, List.length_cons, List.length_append, List.length_nil]; omega

theorem wkt_any {NT : List UInt8 → Nat → Prop} (N : NumOut NT) (G B b : Nat) (hGB : G ≤ B) {g : Geom} {c : Nat} (hc : Cost g c) : WF g → ∀ (l : List UInt8) (u : Value) (w : World), Glob G w → Buf B b l w → Root B (fun w => GeoIs w u g) w → l.length + 64 * c ≤ 140737488355328 →
    Calls Tryz.prog 18 #[.pointer (some ⟨b, 0, none⟩), u] w (WkOut NT B b l g c w) := by
  induction hc with
  | @pt p =>
    intro hw l u w hG hB hr hl
    cases hr.stayB.get
    cases hw with
    | pt hg => exact wkt_pt N G B b l p w hG hB hg hl
  | @line ps =>
    intro hw l u w hG hB hr hl
    have hg0 := hr.stayB.get
    cases hg0 with
    | @line v ps h0 =>
      cases hw with
      | line hg =>
        by_cases hne : ps = []
        · subst hne
          obtain ⟨ao, cap, rfl, _⟩ := pts_at h0
          exact wkt_line0 B b l ao cap w hB hl
        · exact wkt_line1 N G B b l v ps w hG hGB hB ((hr.imp fun w h => by cases h with | line h => exact h).stayB) hg hne hl
  | @poly rs =>
    intro hw l u w hG hB hr hl
    have hg0 := hr.stayB.get
    cases hg0 with
    | @poly v rs h0 =>
      cases hw with
      | poly hg =>
        by_cases hne : rs = []
        · subst hne
          obtain ⟨ao, cap, rfl, _⟩ := rows_at h0
          exact wkt_poly0 B b l ao cap w hB hl
        · exact wkt_poly1 N G B b l v rs w hG hGB hB (hr.imp fun w h => by cases h with | poly h => exact h) hg hne hl
  | @mpt ps =>
    intro hw l u w hG hB hr hl
    have hg0 := hr.stayB.get
    cases hg0 with
    | @mpt v ps h0 =>
      cases hw with
      | mpt hg =>
        by_cases hne : ps = []
        · subst hne
          obtain ⟨ao, cap, rfl, _⟩ := pts_at h0
          exact wkt_mpt0 B b l ao cap w hB hl
        · exact wkt_mpt1 N G B b l v ps w hG hGB hB ((hr.imp fun w h => by cases h with | mpt h => exact h).stayB) hg hne hl
  | @mline rs =>
    intro hw l u w hG hB hr hl
    have hg0 := hr.stayB.get
    cases hg0 with
    | @mline v rs h0 =>
      cases hw with
      | mline hg =>
        by_cases hne : rs = []
        · subst hne
          obtain ⟨ao, cap, rfl, _⟩ := rows_at h0
          exact wkt_mline0 B b l ao cap w hB hl
        · exact wkt_mline1 N G B b l v rs w hG hGB hB (hr.imp fun w h => by cases h with | mline h => exact h) hg hne hl
  | @mpoly xs =>
    intro hw l u w hG hB hr hl
    have hg0 := hr.stayB.get
    cases hg0 with
    | @mpoly v xs h0 =>
      cases hw with
      | mpoly hg =>
        by_cases hne : xs = []
        · subst hne
          obtain ⟨ao, cap, rfl, _⟩ := polys_at h0
          exact wkt_mpoly0 B b l ao cap w hB hl
        · exact wkt_mpoly1 N G B b l v xs w hG hGB hB (hr.imp fun w h => by cases h with | mpoly h => exact h) hg hne hl
  | @coll gs cs hcl hcc ih =>
    intro hw l u w hG hB hr hl
    have hg0 := hr.stayB.get
    have hwm : ∀ (i : Nat) (g : Geom), gs[i]? = some g → WF g := by cases hw with | coll h => exact h
    have hc1 : ∀ c ∈ cs, 1 ≤ c := fun c hc => by
      obtain ⟨i, hi, rfl⟩ := List.mem_iff_getElem.mp hc
      exact (hcc i (gs[i]'(by omega)) cs[i] (List.getElem?_eq_getElem (by omega)) (List.getElem?_eq_getElem hi)).pos
    cases hg0 with
    | @coll v gs us h0 hl0 hu0 =>
      by_cases hne : gs = []
      · subst hne
        have hcs : cs = [] := List.eq_nil_of_length_eq_zero (by simpa using hcl)
        subst hcs
        obtain ⟨ao, cap, rfl, _⟩ := coll_at hr.stayB.get
        exact wkt_coll0 B b l ao cap w hB hl
      · exact wkt_coll1 G B b l v gs cs w hG hGB hB hr hcl hc1 hne hl fun i g c h1 h2 l u w hG hB hr hl => ih i g c h1 h2 (hwm i g h1) l u w hG hB hr hl
end Go.Proofs.YtgmbjdoifkjdhaaGreatDoor
end
section
namespace Go.Proofs.YtgmbjdoifkjdhaaGreatDoor
open Go.RowKit

theorem newbuf_any (w : World) : Calls Tryz.prog 17 #[.slice none 0 0] w fun e w' => e = .returned (.pointer (some ⟨w.heap.size, 0, none⟩)) ∧ w' = w.alloc (.cells #[.slice none 0 0, .int .i64 0, .int .i8 0] 90) := by
  go_enter Tryz.func17, Tryz.ntmps17
  go_wp2
  go_ret
  exact ⟨rfl, rfl⟩
theorem buf_new (w : World) : Buf w.heap.size w.heap.size [] (w.alloc (.cells #[.slice none 0 0, .int .i64 0, .int .i8 0] 90)) :=
  ⟨Lib.fresh_isBuffer 90 5 w, by simp⟩
theorem marshal_any {NT : List UInt8 → Nat → Prop} (N : NumOut NT) (G : Nat) {g : Geom} {c : Nat} (hc : Cost g c) (hw : WF g) (v : Value) (w : World) (hG : Glob G w) (hv : Stay (fun w => GeoIs w v g) w) (hl : 64 * c ≤ 140737488355328) :
    Calls Tryz.prog 9 #[v] w fun e w' => (∃ s, e = .returned (.string s) ∧ WT NT (bs s) g ∧ s.size ≤ 64 * c) ∧ Below w.heap.size w w' := by
  have hG1 := hide (hG.up (below_alloc w (.cells #[.slice none 0 0, .int .i64 0, .int .i8 0] 90)))
  have hR : Hid (Root w.heap.size (fun w => GeoIs w v g) (w.alloc (.cells #[.slice none 0 0, .int .i64 0, .int .i8 0] 90))) := hide ⟨w, rfl, hv, below_alloc w _⟩
  have hGs := hG.size
  obtain ⟨tv, pv, rfl⟩ := GeoIs.iface hv.get
  have hB := hide (buf_new w)
  replace hw := hide hw
  replace hc := hide hc
  clear hv hG
  go_enter Tryz.func9, Tryz.ntmps9
  go_wp2_with (first
    | (go_at_call 17; refine (newbuf_any w).mono ?_; rintro e w1 ⟨rfl, rfl⟩)
    | (go_at_call 18; refine (wkt_any N G w.heap.size w.heap.size hGs hc.out hw.out [] _ _ hG1.out hB.out hR.out (by simp; omega)).mono ?_; rintro e w2 ⟨rfl, ⟨l', hwt, hB2, hlen⟩, hb2⟩; (replace hB2 := hide hB2); (replace hb2 := hide hb2); (replace hwt := hide hwt))
    | (go_at_call 19; refine (Tryz.Buffer_String w.heap.size w.heap.size l' _ (by simpa using hB2.out.1)).mono ?_; rintro e w3 ⟨rfl, n, rfl⟩))
  go_ret
  refine ⟨⟨tx l', rfl, by rw [bs_tx]; exact hwt.out, by rw [tx_size]; omega⟩, ?_⟩
  exact ((below_alloc w _).trans hb2.out).trans (below_drewN (Below.refl _ _) n)
set_option maxRecDepth 100000 in
theorem write4_any {NT : List UInt8 → Nat → Prop} (N : NumOut NT) (G : Nat) {g : Geom} {c : Nat} (hc : Cost g c) (hw : WF g) (hs : Small g) (kd lv pv : Value) (w : World) (hG : Glob G w) (hv : Stay (fun w => ShpIs w [kd, lv, pv] g) w) (hl : 64 * c ≤ 140737488355328) :
    Calls Tryz.prog 4 #[.agg #[kd, lv, pv]] w fun e w' => (∃ s, e = .returned (.string s) ∧ WT NT (bs s) g ∧ s.size ≤ 64 * c) ∧ Below w.heap.size w w' := by
  obtain ⟨n, a1, n1, c1, a2, n2, c2, rfl, rfl, rfl⟩ := hv.get.cells
  have hv1 := hide (hv.below (below_alloc w (.cells #[.int .i64 n, .slice a1 n1 c1, .slice a2 n2 c2] 26)))
  have hG1 := hide (hG.up (below_alloc w (.cells #[.int .i64 n, .slice a1 n1 c1, .slice a2 n2 c2] 26)))
  replace hw := hide hw
  replace hc := hide hc
  replace hs := hide hs
  clear hv hG
  go_enter Tryz.func4, Tryz.ntmps4
  go_wp2_with (first
    | (go_at_call 8; refine (geometry_any hs.out _ _ _ _ hv1.out).mono ?_; rintro e w1 ⟨v, rfl, hsg, hb1⟩; (obtain ⟨tv, pv, rfl⟩ := GeoIs.iface hsg.get); (replace hsg := hide hsg); (replace hb1 := hide hb1))
    | (go_at_call 9; refine (marshal_any N G hc.out hw.out _ _ (hG1.out.up hb1.out) hsg.out.stay hl).mono ?_; rintro e w2 ⟨⟨s, rfl, hwt, hsz⟩, hb2⟩))
  go_ret
  exact ⟨⟨s, rfl, hwt, hsz⟩, ((below_alloc w _).trans (hb1.out.mono (by simp))).trans (hb2.mono (by have := hb1.out.size; simp at this; omega))⟩
end Go.Proofs.YtgmbjdoifkjdhaaGreatDoor
end
