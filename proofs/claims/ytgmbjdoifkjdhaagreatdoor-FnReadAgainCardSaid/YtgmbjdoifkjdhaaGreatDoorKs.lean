/- wkt: a polygon, lines. -/
import Derived.Test.YtgmbjdoifkjdhaaGreatDoorKr
namespace Go.Proofs.YtgmbjdoifkjdhaaGreatDoor
open Go.RowKit

theorem all2_ne {X : Type} {R : List UInt8 → X → Prop} {ls : List (List UInt8)} {xs : List X} (h : All2 R ls xs) (hx : xs ≠ []) : ls ≠ [] := by
  cases h with
  | nil => exact absurd rfl hx
  | cons h1 h2 => simp
theorem crow_take {rs : List (List (Nat × Nat))} {k : Nat} {ps : List (Nat × Nat)} (h : rs[k]? = some ps) : crow (rs.take (k + 1)) = crow (rs.take k) + (ps.length + 1) := by
  rw [take_one h]; simp [crow]
theorem crow_app (a b : List (List (Nat × Nat))) : crow (a ++ b) = crow a + crow b := by simp [crow]
theorem crow_le (rs : List (List (Nat × Nat))) (k : Nat) : crow (rs.take k) ≤ crow rs := by
  have h := congrArg crow (List.take_append_drop k rs)
  rw [crow_app] at h
  omega
theorem crow_len (rs : List (List (Nat × Nat))) : rs.length ≤ crow rs := by
  induction rs with
  | nil => simp [crow]
  | cons r rs ih =>
    have h := crow_app [r] rs
    have h2 : crow [r] = r.length + 1 := by simp [crow]
    rw [List.length_cons, show r :: rs = [r] ++ rs from rfl, h, h2]
    omega
/-- R was so when the heap ended at B, and what lay there is still there. -/
def Root (B : Nat) (R : World → Prop) (w : World) : Prop := ∃ w0 : World, w0.heap.size = B ∧ Stay R w0 ∧ Below B w0 w
theorem Root.stayB {B : Nat} {R : World → Prop} {w : World} (h : Root B R w) : StayB B R w := by
  obtain ⟨w0, rfl, h1, h2⟩ := h
  exact fun w' hw => h1 w' (h2.trans hw)
theorem Root.below {B : Nat} {R : World → Prop} {w w' : World} (h : Root B R w) (hb : Below B w w') : Root B R w' := by
  obtain ⟨w0, h0, h1, h2⟩ := h
  exact ⟨w0, h0, h1, h2.trans hb⟩
theorem Root.imp {B : Nat} {R R' : World → Prop} {w : World} (h : Root B R w) (hi : ∀ w, R w → R' w) : Root B R' w := by
  obtain ⟨w0, h0, h1, h2⟩ := h
  exact ⟨w0, h0, fun w' hw => hi _ (h1 w' hw), h2⟩
theorem Root.row {B : Nat} {ao : Option Addr} {n c k : Nat} {rs : List (List (Nat × Nat))} {ps : List (Nat × Nat)} {w : World} (h : Root B (IsSl 1 RowIt (.slice ao n c) rs) w) (hps : rs[k]? = some ps) :
    ∃ b u, ao = some ⟨b, 0, none⟩ ∧ (∀ w', Below B w w' → w'.cell? ⟨b, k, none⟩ = some u) ∧ Root B (IsSl 2 PtIt u ps) w := by
  obtain ⟨w0, rfl, h1, h2⟩ := h
  obtain ⟨ao', cap', he, hcell⟩ := rows_at h1.get
  injection he with he1 _ he2
  subst he1; subst he2
  obtain ⟨b, u, rfl, hcu, hup⟩ := hcell k ps hps
  refine ⟨b, u, rfl, fun w' hw => cell_up (h2.trans hw) hcu, w0, rfl, fun w5 h5 => ?_, h2⟩
  obtain ⟨ao5, cap5, he5, hcell5⟩ := rows_at (h1 _ h5)
  injection he5 with h6 _ _
  subst h6
  obtain ⟨b5, u5, h7, h8, h9⟩ := hcell5 k ps hps
  injection h7 with h7
  injection h7 with h7
  subst h7
  have h10 := cell_up h5 hcu
  rw [h8] at h10
  injection h10 with h10
  rw [← h10]; exact h9

set_option maxHeartbeats 1000000 in
set_option maxRecDepth 100000 in
theorem wkt_poly0 {NT : List UInt8 → Nat → Prop} (B b : Nat) (l : List UInt8) (ao : Option Addr) (cap : Nat) (w : World) (hB : Buf B b l w) (hl : l.length + 64 ≤ 140737488355328) :
    Calls Tryz.prog 18 #[.pointer (some ⟨b, 0, none⟩), .iface 52 (.slice ao 0 cap)] w (WkOut NT B b l (.poly []) 1 w) := by
  have t0 := ta_52_47
  have t1 := ta_52_54
  have t2 := ta_52_50
  have t3 := ta_52_56
  have t4 := ta_52_86
  have t5 := ta_52_52
  replace hB := hide hB
  have kc := fun (w : World) (C : Array Value) (n c : Nat) => Lib.run_convert_bytes_const (P := Tryz.prog) w 66 5 C n c under66 under5
  go_enter Tryz.func18, Tryz.ntmps18
  go_wp2_with (first
    | (go_at_call 35; refine (wlit_any B b l (kPoly ++ emp) 13 _ _ _ w hB.out rfl rfl (by omega)).mono ?_; rintro e w2 ⟨rfl, hB2, hb2⟩))
  go_end0
  exact ⟨rfl, ⟨_, .poly0, hB2, by decide⟩, hb2⟩
set_option maxHeartbeats 4000000 in
set_option maxRecDepth 100000 in
theorem wkt_poly1 {NT : List UInt8 → Nat → Prop} (N : NumOut NT) (G B b : Nat) (l : List UInt8) (v : Value) (rs : List (List (Nat × Nat))) (w : World) (hG : Glob G w) (hGB : G ≤ B) (hB : Buf B b l w) (hv : Root B (IsSl 1 RowIt v rs) w)
    (hgood : ∀ r ∈ rs, GoodRing r) (hne : rs ≠ []) (hl : l.length + 64 * (crow rs + 1) ≤ 140737488355328) :
    Calls Tryz.prog 18 #[.pointer (some ⟨b, 0, none⟩), .iface 52 v] w (WkOut NT B b l (.poly rs) (crow rs + 1) w) := by
  have t0 := ta_52_47
  have t1 := ta_52_54
  have t2 := ta_52_50
  have t3 := ta_52_56
  have t4 := ta_52_86
  have t5 := ta_52_52
  obtain ⟨ao, cap, rfl, _⟩ := rows_at hv.stayB.get
  have hn0 : 0 < rs.length := List.length_pos_iff.mpr hne
  have hrl := crow_len rs
  have hBs := hB.2
  replace hB := hide hB
  replace hG := hide hG
  replace hgood := hide hgood
  replace hvB := hide hv
  clear hv
  have kc := fun (w : World) (C : Array Value) (n c : Nat) => Lib.run_convert_bytes_const (P := Tryz.prog) w 66 5 C n c under66 under5
  go_enter Tryz.func18, Tryz.ntmps18
  go_wp2_with (first
    | (go_at_call 35; refine (wlit_any B b l (kPoly ++ [40]) 8 _ _ _ w hB.out rfl rfl (by omega)).mono ?_; rintro e w1 ⟨rfl, hB1, hb1⟩; (replace hb1 := hide hb1); (replace hB1 := hide hB1)))
  go_loopw [155] (fun i wr => ∃ (k : Nat) (ls : List (List UInt8)), k ≤ rs.length ∧ i = .int .i64 k ∧ Hid (All2 (RingT NT) ls (rs.take k)) ∧ Hid (Buf B b ((l ++ kPoly) ++ 40 :: jn ls) wr) ∧ (jn ls).length ≤ 64 * crow (rs.take k) ∧ Hid (Below B w wr))
    (fun i _ => rs.length - (intOf i).toNat)
  case atStart => exact ⟨0, [], Nat.zero_le _, rfl, hide (by simpa using All2.nil), hide (by simpa [jn] using hB1.out), by simp [jn], hb1⟩
  case round =>
    obtain ⟨k, ls, hk, rfl, hls, hBr, hlen, hbr⟩ := hrel
    have hkm : (kPoly : List UInt8).length = 7 := rfl
    by_cases hlt : k < rs.length
    · obtain ⟨ps, hps⟩ : ∃ p, rs[k]? = some p := ⟨_, List.getElem?_eq_getElem hlt⟩
      have hg2 := hide (hgood.out ps (List.mem_of_getElem? hps))
      have hcr := crow_take hps
      have hcl := crow_le rs (k + 1)
      obtain ⟨bb, u, rfl, hcu, hup⟩ := hvB.out.row hps
      have hcu1 := hcu wr hbr.out
      replace hcu := hide hcu
      replace hup := hide hup
      replace hps := hide hps
      by_cases hk0 : k = 0
      · have hls0 : ls = [] := by subst hk0; exact all2_nil (by simpa using hls.out)
        subst hk0
        subst hls0
        go_wp2_with (first
          | (go_at_call 37; refine (wls_any N G B b _ _ ps wr (hG.out.below (hbr.out.mono hGB)) hGB hBr.out ((hup.out.below hbr.out).stayB.stay hBr.out.2) (hup.out.below hbr.out).stayB hg2.out.2 (by simp only [List.length_append, List.length_cons] at *; omega)).mono ?_; rintro e w4 ⟨rfl, ⟨qs, hqs, hB4, hlq⟩, hb4⟩))
        have hp : RingT NT (br (jn qs)) ps := ⟨qs, all2_ne hqs hg2.out.1, hqs, rfl⟩
        refine ⟨⟨0 + 1, [] ++ [br (jn qs)], hlt, rfl, hide ?_, hide ?_, ?_, hide (hbr.out.trans hb4)⟩, by simp [intOf]; omega⟩
        · rw [take_one hps.out]; exact hls.out.snoc hp
        · simpa [jn] using hB4
        · simp only [List.nil_append, jn]; omega
      · have hls0 : ls ≠ [] := fun h => by subst h; have h2 := hls.out.len; rw [List.length_take, List.length_nil] at h2; omega
        go_wp2_with (first
          | (go_at_call 36; refine (wbyte_any B b _ 44 44 rfl _ hBr.out (by simp only [List.length_append, List.length_cons] at *; omega)).mono ?_; rintro e wq ⟨rfl, hBq, hbq, _⟩; (replace hBq := hide hBq); (replace hbq := hide (hbr.out.trans hbq)))
          | (go_at_call 37; refine (wls_any N G B b _ _ ps wq (hG.out.below (hbq.out.mono hGB)) hGB hBq.out ((hup.out.below hbq.out).stayB.stay hBq.out.2) (hup.out.below hbq.out).stayB hg2.out.2 (by simp only [List.length_append, List.length_cons, List.length_nil] at *; omega)).mono ?_; rintro e w4 ⟨rfl, ⟨qs, hqs, hB4, hlq⟩, hb4⟩))
        have hp : RingT NT (br (jn qs)) ps := ⟨qs, all2_ne hqs hg2.out.1, hqs, rfl⟩
        refine ⟨⟨k + 1, ls ++ [br (jn qs)], hlt, rfl, hide ?_, hide ?_, ?_, hide (hbq.out.trans hb4)⟩, by simp [intOf]; omega⟩
        · rw [take_one hps.out]; exact hls.out.snoc hp
        · rw [jn_snoc _ hls0]; simpa using hB4
        · rw [jn_snoc _ hls0, List.length_append, List.length_cons]; omega
    · have hkk : k = rs.length := by omega
      have hcl := crow_le rs k
      go_wp2_with (first
        | (go_at_call 36; (with_reducible refine (wbyte_any B b _ 41 41 rfl _ hBr.out (by simp only [List.length_append, List.length_cons] at *; omega)).mono ?_); rintro e w5 ⟨rfl, hB5, hb5, _⟩))
      go_end0
      have hall : All2 (RingT NT) ls rs := by have := hls.out; rwa [hkk, List.take_length] at this
      refine ⟨rfl, ⟨_, .poly ⟨ls, all2_ne hall hne, hall, rfl⟩, ?_, ?_⟩, hbr.out.trans hb5⟩
      · simpa [br] using hB5
      · simp only [br, List.length_cons, List.length_append, List.length_nil]; omega

set_option maxHeartbeats 1000000 in
set_option maxRecDepth 100000 in
theorem wkt_mline0 {NT : List UInt8 → Nat → Prop} (B b : Nat) (l : List UInt8) (ao : Option Addr) (cap : Nat) (w : World) (hB : Buf B b l w) (hl : l.length + 64 ≤ 140737488355328) :
    Calls Tryz.prog 18 #[.pointer (some ⟨b, 0, none⟩), .iface 56 (.slice ao 0 cap)] w (WkOut NT B b l (.mline []) 1 w) := by
  have t0 := ta_56_47
  have t1 := ta_56_54
  have t2 := ta_56_50
  have t3 := ta_56_56
  replace hB := hide hB
  have kc := fun (w : World) (C : Array Value) (n c : Nat) => Lib.run_convert_bytes_const (P := Tryz.prog) w 66 5 C n c under66 under5
  go_enter Tryz.func18, Tryz.ntmps18
  go_wp2_with (first
    | (go_at_call 35; refine (wlit_any B b l (kMline ++ emp) 21 _ _ _ w hB.out rfl rfl (by omega)).mono ?_; rintro e w2 ⟨rfl, hB2, hb2⟩))
  go_end0
  exact ⟨rfl, ⟨_, .mline0, hB2, by decide⟩, hb2⟩
set_option maxHeartbeats 4000000 in
set_option maxRecDepth 100000 in
theorem wkt_mline1 {NT : List UInt8 → Nat → Prop} (N : NumOut NT) (G B b : Nat) (l : List UInt8) (v : Value) (rs : List (List (Nat × Nat))) (w : World) (hG : Glob G w) (hGB : G ≤ B) (hB : Buf B b l w) (hv : Root B (IsSl 1 RowIt v rs) w)
    (hgood : ∀ r ∈ rs, GoodRing r) (hne : rs ≠ []) (hl : l.length + 64 * (crow rs + 1) ≤ 140737488355328) :
    Calls Tryz.prog 18 #[.pointer (some ⟨b, 0, none⟩), .iface 56 v] w (WkOut NT B b l (.mline rs) (crow rs + 1) w) := by
  have t0 := ta_56_47
  have t1 := ta_56_54
  have t2 := ta_56_50
  have t3 := ta_56_56
  obtain ⟨ao, cap, rfl, _⟩ := rows_at hv.stayB.get
  have hn0 : 0 < rs.length := List.length_pos_iff.mpr hne
  have hrl := crow_len rs
  have hBs := hB.2
  replace hB := hide hB
  replace hG := hide hG
  replace hgood := hide hgood
  replace hvB := hide hv
  clear hv
  have kc := fun (w : World) (C : Array Value) (n c : Nat) => Lib.run_convert_bytes_const (P := Tryz.prog) w 66 5 C n c under66 under5
  go_enter Tryz.func18, Tryz.ntmps18
  go_wp2_with (first
    | (go_at_call 35; refine (wlit_any B b l (kMline ++ [40]) 16 _ _ _ w hB.out rfl rfl (by omega)).mono ?_; rintro e w1 ⟨rfl, hB1, hb1⟩; (replace hb1 := hide hb1); (replace hB1 := hide hB1)))
  go_loopw [116] (fun i wr => ∃ (k : Nat) (ls : List (List UInt8)), k ≤ rs.length ∧ i = .int .i64 k ∧ Hid (All2 (RingT NT) ls (rs.take k)) ∧ Hid (Buf B b ((l ++ kMline) ++ 40 :: jn ls) wr) ∧ (jn ls).length ≤ 64 * crow (rs.take k) ∧ Hid (Below B w wr))
    (fun i _ => rs.length - (intOf i).toNat)
  case atStart => exact ⟨0, [], Nat.zero_le _, rfl, hide (by simpa using All2.nil), hide (by simpa [jn] using hB1.out), by simp [jn], hb1⟩
  case round =>
    obtain ⟨k, ls, hk, rfl, hls, hBr, hlen, hbr⟩ := hrel
    have hkm : (kMline : List UInt8).length = 15 := rfl
    by_cases hlt : k < rs.length
    · obtain ⟨ps, hps⟩ : ∃ p, rs[k]? = some p := ⟨_, List.getElem?_eq_getElem hlt⟩
      have hg2 := hide (hgood.out ps (List.mem_of_getElem? hps))
      have hcr := crow_take hps
      have hcl := crow_le rs (k + 1)
      obtain ⟨bb, u, rfl, hcu, hup⟩ := hvB.out.row hps
      have hcu1 := hcu wr hbr.out
      replace hcu := hide hcu
      replace hup := hide hup
      replace hps := hide hps
      by_cases hk0 : k = 0
      · have hls0 : ls = [] := by subst hk0; exact all2_nil (by simpa using hls.out)
        subst hk0
        subst hls0
        go_wp2_with (first
          | (go_at_call 37; refine (wls_any N G B b _ _ ps wr (hG.out.below (hbr.out.mono hGB)) hGB hBr.out ((hup.out.below hbr.out).stayB.stay hBr.out.2) (hup.out.below hbr.out).stayB hg2.out.2 (by simp only [List.length_append, List.length_cons] at *; omega)).mono ?_; rintro e w4 ⟨rfl, ⟨qs, hqs, hB4, hlq⟩, hb4⟩))
        have hp : RingT NT (br (jn qs)) ps := ⟨qs, all2_ne hqs hg2.out.1, hqs, rfl⟩
        refine ⟨⟨0 + 1, [] ++ [br (jn qs)], hlt, rfl, hide ?_, hide ?_, ?_, hide (hbr.out.trans hb4)⟩, by simp [intOf]; omega⟩
        · rw [take_one hps.out]; exact hls.out.snoc hp
        · simpa [jn] using hB4
        · simp only [List.nil_append, jn]; omega
      · have hls0 : ls ≠ [] := fun h => by subst h; have h2 := hls.out.len; rw [List.length_take, List.length_nil] at h2; omega
        go_wp2_with (first
          | (go_at_call 36; refine (wbyte_any B b _ 44 44 rfl _ hBr.out (by simp only [List.length_append, List.length_cons] at *; omega)).mono ?_; rintro e wq ⟨rfl, hBq, hbq, _⟩; (replace hBq := hide hBq); (replace hbq := hide (hbr.out.trans hbq)))
          | (go_at_call 37; refine (wls_any N G B b _ _ ps wq (hG.out.below (hbq.out.mono hGB)) hGB hBq.out ((hup.out.below hbq.out).stayB.stay hBq.out.2) (hup.out.below hbq.out).stayB hg2.out.2 (by simp only [List.length_append, List.length_cons, List.length_nil] at *; omega)).mono ?_; rintro e w4 ⟨rfl, ⟨qs, hqs, hB4, hlq⟩, hb4⟩))
        have hp : RingT NT (br (jn qs)) ps := ⟨qs, all2_ne hqs hg2.out.1, hqs, rfl⟩
        refine ⟨⟨k + 1, ls ++ [br (jn qs)], hlt, rfl, hide ?_, hide ?_, ?_, hide (hbq.out.trans hb4)⟩, by simp [intOf]; omega⟩
        · rw [take_one hps.out]; exact hls.out.snoc hp
        · rw [jn_snoc _ hls0]; simpa using hB4
        · rw [jn_snoc _ hls0, List.length_append, List.length_cons]; omega
    · have hkk : k = rs.length := by omega
      have hcl := crow_le rs k
      go_wp2_with (first
        | (go_at_call 36; (with_reducible refine (wbyte_any B b _ 41 41 rfl _ hBr.out (by simp only [List.length_append, List.length_cons] at *; omega)).mono ?_); rintro e w5 ⟨rfl, hB5, hb5, _⟩))
      go_end0
      have hall : All2 (RingT NT) ls rs := by have := hls.out; rwa [hkk, List.take_length] at this
      refine ⟨rfl, ⟨_, .mline ⟨ls, all2_ne hall hne, hall, rfl⟩, ?_, ?_⟩, hbr.out.trans hb5⟩
      · simpa [br] using hB5
      · simp only [br, List.length_cons, List.length_append, List.length_nil]; omega

end Go.Proofs.YtgmbjdoifkjdhaaGreatDoor
