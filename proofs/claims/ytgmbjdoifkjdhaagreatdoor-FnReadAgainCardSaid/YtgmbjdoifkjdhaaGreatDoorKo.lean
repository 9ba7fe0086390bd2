/- geometry: a shape as the package takes it; first, polygonOf. geometry, of a point, a line, a polygon, points, lines. geometry, of lines, of polygons, of a collection, and of all. -/
import Derived.Test.YtgmbjdoifkjdhaaGreatDoorKn
section
namespace Go.Proofs.YtgmbjdoifkjdhaaGreatDoor
open Go.RowKit

theorem one_row {lv : Value} {ps : List (Nat × Nat)} {w : World} (hv : Stay (IsSl 1 RowIt lv [ps]) w) : ∃ b c u, lv = .slice (some ⟨b, 0, none⟩) 1 c ∧ w.cell? ⟨b, 0, none⟩ = some u ∧ Stay (IsSl 2 PtIt u ps) w := by
  obtain ⟨ao, cap, rfl, h1⟩ := rows_at hv.get
  obtain ⟨b, u, rfl, h2, h3⟩ := h1 0 ps rfl
  refine ⟨b, cap, u, rfl, h2, fun w' hw => ?_⟩
  obtain ⟨ao', cap', he, h1'⟩ := rows_at (hv w' hw)
  injection he with e1 _ e2
  subst e1
  obtain ⟨b', u', e3, h4, h5⟩ := h1' 0 ps rfl
  injection e3 with e3
  injection e3 with e3
  subst e3
  rw [cell_up hw h2] at h4
  injection h4 with h4
  rw [h4]; exact h5
set_option maxRecDepth 100000 in
theorem first_one (kd pv lv : Value) (n : Int) (a2 : Option Addr) (n2 c2 : Nat) (hkd : kd = .int .i64 n) (hpv : pv = .slice a2 n2 c2) (ps : List (Nat × Nat)) (w : World) (hv : Stay (IsSl 1 RowIt lv [ps]) w) :
    Calls Tryz.prog 14 #[.agg #[kd, lv, pv]] w fun e w' => ∃ u, e = .returned u ∧ Stay (IsSl 2 PtIt u ps) w' ∧ Below w.heap.size w w' := by
  subst hkd; subst hpv
  obtain ⟨b, c, u, rfl, h1, h2⟩ := one_row hv
  clear hv
  have hlt := cell_lt h1
  have h3 : (w.alloc (.cells #[.int .i64 n, .slice (some ⟨b, 0, none⟩) 1 c, .slice a2 n2 c2] 26)).cell? ⟨b, 0, none⟩ = some u := cell_up (below_alloc w _) h1
  replace h2 := hide h2
  go_enter Tryz.func14, Tryz.ntmps14
  go_wp2
  go_ret
  exact ⟨_, rfl, h2.out.below (below_alloc w _), below_alloc w _⟩

set_option maxHeartbeats 1000000 in
set_option maxRecDepth 100000 in
theorem polygonOf_any (lv : Value) (rs : List (List (Nat × Nat))) (w : World) (hv : Stay (IsSl 1 RowIt lv rs) w) (hl : rs.length ≤ 1099511627776) (hl2 : ∀ r ∈ rs, r.length ≤ 1099511627776) :
    Calls Tryz.prog 16 #[.agg #[.int .i64 3, lv, .slice none 0 0]] w fun e w' => ∃ v', e = .returned v' ∧ Sup w.heap.size (IsSl 1 RowIt v' rs) w' ∧ Below w.heap.size w w' := by
  obtain ⟨i0, hi, hz0, hz1, hz2⟩ := info_parts info86
  obtain ⟨ao, cap, rfl, _⟩ := rows_at hv.get
  replace hv := hide hv
  replace hl2 := hide hl2
  have hst := hide (World.ownsRow_made (base := w.heap.size + 1) (e := 86) (size := 1) (w.alloc (.cells #[.int .i64 3, .slice ao rs.length cap, .slice none 0 0] 26)) #[] 0 (by simp) (by decide) rfl)
  go_enter Tryz.func16, Tryz.ntmps16
  go_wp2
  go_loopw [3, 10] (fun vo i wr => ∃ (k : Nat) (done : List (List (Nat × Nat))), k ≤ rs.length ∧ i = .int .i64 k ∧ done.length = k ∧ w.heap.size + 1 ≤ wr.heap.size ∧ Hid (done = rs.take k) ∧ Hid (Built (w.heap.size + 1) 86 1 RowIt vo done wr) ∧ Hid (Below w.heap.size w wr))
    (fun _ i _ => rs.length - (intOf i).toNat)
  case atStart => exact ⟨0, [], Nat.zero_le _, rfl, rfl, by simp, hide (by simp), hide (Built.start (by simpa using hst.out)), hide ((below_alloc w _).alloc (by simp) _)⟩
  case round =>
    obtain ⟨k, done, hk, rfl, hdk, hb1, hd, hb, hbel⟩ := hrel
    obtain ⟨css, hbc⟩ := hb.out
    have hown := hide hbc.2.2.1
    replace hbc := hide hbc
    have hsz := hbel.out.size
    replace hdk := hide hdk
    by_cases hlt : k < rs.length
    · obtain ⟨ps, hps⟩ : ∃ p, rs[k]? = some p := ⟨_, List.getElem?_eq_getElem hlt⟩
      have hpl := hl2.out ps (List.mem_of_getElem? hps)
      obtain ⟨ao', cap', he, hcell⟩ := rows_at (hv.out _ hbel.out)
      injection he with he1 _ he2
      subst he1; subst he2
      obtain ⟨b, u, rfl, hcu, hup⟩ := hcell k ps hps
      clear hcell
      have hup2 : Stay (IsSl 2 PtIt u ps) wr := by
        intro w5 h5
        obtain ⟨ao5, cap5, he5, hcell5⟩ := rows_at (hv.out _ (hbel.out.trans (h5.mono hsz)))
        injection he5 with h6 _ _
        subst h6
        obtain ⟨b5, u5, h7, h8, h9⟩ := hcell5 k ps hps
        injection h7 with h7
        injection h7 with h7
        subst h7
        have h10 := cell_up h5 hcu
        rw [h8] at h10
        injection h10 with h10
        rw [← h10]; exact h9
      replace hup2 := hide hup2
      replace hps := hide hps
      clear hup
      go_wp2_with (first
        | (go_at_call 15; refine (pointsOf_any u ps _ hup2.out hpl).mono ?_; rintro e w2 ⟨v2, rfl, hsp, hbl⟩; (obtain ⟨a2, c2, rfl, _⟩ := pts_at hsp.get); (have hown2 := hide (hbc.out.below hbl).2.2.1); (have hsz2 := hbl.size); (replace hsp := hide hsp); (replace hbl := hide hbl))
        | (at_builtin; refine wpList_append_at _ rfl _ _ 52 rfl (w.heap.size + 1) 86 i0 (.slice none 0 0) 1 24 under52 hi hz0 hz1 hz2 rfl (by decide) _ _ _ rfl (hown2.out.alloc _) ⟨w2.heap.size, 0, none⟩ 1 1 [.slice a2 ps.length c2] rfl (by decide) rfl (new_at w2 86 #[.slice a2 ps.length c2] _ rfl) (by simp [Value.oneCell']) (by unfold maxLen; rw [hdk.out]; omega) (by rw [hdk.out]; omega) (by simp; omega) ?_; intro v' w3 hown' hgrow hv'))
      have hdk2 : done.length = k := hdk.out
      obtain ⟨hB, hL⟩ := BuiltC.more (x := ps) hbc.out (hbl.out.trans ((below_alloc w2 _).mono hsz2)) ((hsp.out.imp fun w h => (⟨_, rfl, h⟩ : RowIt [_] ps w)).below (below_alloc w2 _)) rfl hb1 hown' hgrow hv'
      refine ⟨⟨k + 1, done ++ [ps], hlt, rfl, by rw [List.length_append, List.length_singleton, hdk2], by have := hgrow.size; simp at this; omega, hide ?_, hide hB, hide (hbel.out.trans (hL.mono (by omega)))⟩, by simp [intOf]; omega⟩
      rw [hd.out, List.take_add_one, hps.out]; rfl
    · go_wp2
      go_ret
      have hdk2 : done = rs := by rw [hd.out]; exact List.take_of_length_le (by omega)
      rw [hdk2] at hb
      exact ⟨_, rfl, hb.out.sup.mono (by omega), hbel.out⟩
end Go.Proofs.YtgmbjdoifkjdhaaGreatDoor
end
section
namespace Go.Proofs.YtgmbjdoifkjdhaaGreatDoor
open Go.RowKit

/-- What geometry answers. -/
def GeoOut (g : Geom) (w : World) (e : Ending) (w' : World) : Prop := ∃ v, e = .returned v ∧ Sup w.heap.size (fun w => GeoIs w v g) w' ∧ Below w.heap.size w w'
theorem geo_out {g : Geom} {w w1 w2 : World} {v : Value} (hs : Sup w1.heap.size (fun w => GeoIs w v g) w2) (h1 : Below w.heap.size w w1) (h2 : Below w1.heap.size w1 w2) : GeoOut g w (.returned v) w2 :=
  ⟨v, rfl, hs.mono h1.size, h1.trans (h2.mono h1.size)⟩
set_option maxRecDepth 100000 in
theorem geo_line (lv : Value) (ps : List (Nat × Nat)) (w : World) (hv : Stay (IsSl 1 RowIt lv [ps]) w) (hl : ps.length ≤ 1099511627776) :
    Calls Tryz.prog 8 #[.agg #[.int .i64 2, lv, .slice none 0 0]] w (GeoOut (.line ps) w) := by
  have hv1 := hide (hv.below (below_alloc w (.cells #[.int .i64 2, lv, .slice none 0 0] 26)))
  obtain ⟨b, c, u, rfl, _, _⟩ := one_row hv
  clear hv
  go_enter Tryz.func8, Tryz.ntmps8
  go_wp2_with (first
    | (go_at_call 14; refine (first_one _ _ _ 2 none 0 0 rfl rfl ps _ hv1.out).mono ?_; rintro e w1 ⟨u, rfl, hu, hb1⟩; (replace hu := hide hu); (replace hb1 := hide hb1))
    | (go_at_call 15; refine (pointsOf_any u ps _ hu.out hl).mono ?_; rintro e w2 ⟨v2, rfl, hsp, hb2⟩; (replace hsp := hide hsp); (replace hb2 := hide hb2)))
  go_ret
  exact geo_out (hsp.out.imp fun w h => .line h) ((below_alloc w _).trans (hb1.out.mono (by simp))) hb2.out
set_option maxRecDepth 100000 in
theorem geo_mpt (lv : Value) (ps : List (Nat × Nat)) (w : World) (hv : Stay (IsSl 1 RowIt lv [ps]) w) (hl : ps.length ≤ 1099511627776) :
    Calls Tryz.prog 8 #[.agg #[.int .i64 4, lv, .slice none 0 0]] w (GeoOut (.mpt ps) w) := by
  have hv1 := hide (hv.below (below_alloc w (.cells #[.int .i64 4, lv, .slice none 0 0] 26)))
  obtain ⟨b, c, u, rfl, _, _⟩ := one_row hv
  clear hv
  go_enter Tryz.func8, Tryz.ntmps8
  go_wp2_with (first
    | (go_at_call 14; refine (first_one _ _ _ 4 none 0 0 rfl rfl ps _ hv1.out).mono ?_; rintro e w1 ⟨u, rfl, hu, hb1⟩; (replace hu := hide hu); (replace hb1 := hide hb1))
    | (go_at_call 15; refine (pointsOf_any u ps _ hu.out hl).mono ?_; rintro e w2 ⟨v2, rfl, hsp, hb2⟩; (replace hsp := hide hsp); (replace hb2 := hide hb2)))
  go_ret
  exact geo_out (hsp.out.imp fun w h => .mpt h) ((below_alloc w _).trans (hb1.out.mono (by simp))) hb2.out
set_option maxRecDepth 100000 in
theorem geo_poly (lv : Value) (rs : List (List (Nat × Nat))) (w : World) (hv : Stay (IsSl 1 RowIt lv rs) w) (hl : rs.length ≤ 1099511627776) (hl2 : ∀ r ∈ rs, r.length ≤ 1099511627776) :
    Calls Tryz.prog 8 #[.agg #[.int .i64 3, lv, .slice none 0 0]] w (GeoOut (.poly rs) w) := by
  have hv1 := hide (hv.below (below_alloc w (.cells #[.int .i64 3, lv, .slice none 0 0] 26)))
  obtain ⟨ao, cap, rfl, _⟩ := rows_at hv.get
  clear hv
  replace hl2 := hide hl2
  go_enter Tryz.func8, Tryz.ntmps8
  go_wp2_with (first
    | (go_at_call 16; refine (polygonOf_any _ rs _ hv1.out hl hl2.out).mono ?_; rintro e w2 ⟨v2, rfl, hsp, hb2⟩; (replace hsp := hide hsp); (replace hb2 := hide hb2)))
  go_ret
  exact geo_out (hsp.out.imp fun w h => .poly h) (below_alloc w _) hb2.out
set_option maxRecDepth 100000 in
theorem geo_pt (lv : Value) (p : Nat × Nat) (w : World) (hv : Stay (IsSl 1 RowIt lv [[p]]) w) :
    Calls Tryz.prog 8 #[.agg #[.int .i64 1, lv, .slice none 0 0]] w (GeoOut (.pt p) w) := by
  have hv1 := hide (hv.below (below_alloc w (.cells #[.int .i64 1, lv, .slice none 0 0] 26)))
  obtain ⟨b, c, u, rfl, _, _⟩ := one_row hv
  clear hv
  obtain ⟨x, y⟩ := p
  have hB := Blk.new w 26 #[.int .i64 1, .slice (some ⟨b, 0, none⟩) 1 c, .slice none 0 0]
  go_enter Tryz.func8, Tryz.ntmps8
  go_wp2_with (first
    | (go_at_call 14; refine (first_one _ _ _ 1 none 0 0 rfl rfl [(x, y)] _ hv1.out).mono ?_; rintro e w1 ⟨u1, rfl, hu1, hb1⟩; (obtain ⟨a1, c1, rfl, _⟩ := pts_at hu1.get); (have hv2 := hide (hv1.out.below hb1)); (have hB1 := hB.below hb1 (by simp)); (have hk0 := hB1.cell 0); (have hk1 := hB1.cell 1); (have hk2 := hB1.cell 2); (simp only [List.getElem?_toArray, List.getElem?_cons_zero, List.getElem?_cons_succ] at hk0 hk1 hk2); (replace hb1 := hide hb1); (clear hu1))
    | (go_at_call 14; refine (first_one _ _ _ 1 none 0 0 rfl rfl [(x, y)] _ hv2.out).mono ?_; rintro e w2 ⟨u2, rfl, hu2, hb2⟩; (replace hu2 := hide hu2); (replace hb2 := hide hb2))
    | (go_at_call 15; refine (pointsOf_any u2 [(x, y)] _ hu2.out (by simp)).mono ?_; rintro e w3 ⟨v3, rfl, hsp, hb3⟩; (obtain ⟨a3, c3, rfl, hc3⟩ := pts_at hsp.get); (obtain ⟨b3, rfl, hx3, hy3⟩ := hc3 0 x y rfl); (clear hc3); (replace hsp := hide hsp); (replace hb3 := hide hb3)))
  go_ret
  exact ⟨_, rfl, ⟨[], by simp, fun _ _ => GeoIs.pt (p := (x, y))⟩, (((below_alloc w _).trans (hb1.out.mono (by simp))).trans (hb2.out.mono (by have := hb1.out.size; simp at this; omega))).trans (hb3.out.mono (by have := hb1.out.size; have := hb2.out.size; simp at *; omega))⟩
end Go.Proofs.YtgmbjdoifkjdhaaGreatDoor
end
section
namespace Go.Proofs.YtgmbjdoifkjdhaaGreatDoor
open Go.RowKit

set_option maxHeartbeats 1000000 in
set_option maxRecDepth 100000 in
theorem geo_mline (lv : Value) (rs : List (List (Nat × Nat))) (w : World) (hv : Stay (IsSl 1 RowIt lv rs) w) (hl : rs.length ≤ 1099511627776) (hl2 : ∀ r ∈ rs, r.length ≤ 1099511627776) :
    Calls Tryz.prog 8 #[.agg #[.int .i64 5, lv, .slice none 0 0]] w (GeoOut (.mline rs) w) := by
  obtain ⟨i0, hi, hz0, hz1, hz2⟩ := info_parts info50
  obtain ⟨ao, cap, rfl, _⟩ := rows_at hv.get
  replace hv := hide hv
  replace hl2 := hide hl2
  have hst := hide (World.ownsRow_made (base := w.heap.size + 1) (e := 50) (size := 1) (w.alloc (.cells #[.int .i64 5, .slice ao rs.length cap, .slice none 0 0] 26)) #[] 0 (by simp) (by decide) rfl)
  go_enter Tryz.func8, Tryz.ntmps8
  go_wp2
  go_loopw [3, 50] (fun vo i wr => ∃ (k : Nat) (done : List (List (Nat × Nat))), k ≤ rs.length ∧ i = .int .i64 k ∧ done.length = k ∧ w.heap.size + 1 ≤ wr.heap.size ∧ Hid (done = rs.take k) ∧ Hid (Built (w.heap.size + 1) 50 1 RowIt vo done wr) ∧ Hid (Below w.heap.size w wr))
    (fun _ i _ => rs.length - (intOf i).toNat)
  case atStart => exact ⟨0, [], Nat.zero_le _, rfl, rfl, by simp, hide (by simp), hide (Built.start (by simpa using hst.out)), hide ((below_alloc w _).alloc (by simp) _)⟩
  case round =>
    obtain ⟨k, done, hk, rfl, hdk, hb1, hd, hb, hbel⟩ := hrel
    obtain ⟨css, hbc⟩ := hb.out
    have hown := hide hbc.2.2.1
    replace hbc := hide hbc
    have hsz := hbel.out.size
    replace hdk := hide hdk
    by_cases hlt : k < rs.length
    · obtain ⟨ps, hps⟩ : ∃ p, rs[k]? = some p := ⟨_, List.getElem?_eq_getElem hlt⟩
      have hpl := hl2.out ps (List.mem_of_getElem? hps)
      obtain ⟨ao', cap', he, hcell⟩ := rows_at (hv.out _ hbel.out)
      injection he with he1 _ he2
      subst he1; subst he2
      obtain ⟨b, u, rfl, hcu, hup⟩ := hcell k ps hps
      clear hcell
      have hup2 : Stay (IsSl 2 PtIt u ps) wr := by
        intro w5 h5
        obtain ⟨ao5, cap5, he5, hcell5⟩ := rows_at (hv.out _ (hbel.out.trans (h5.mono hsz)))
        injection he5 with h6 _ _
        subst h6
        obtain ⟨b5, u5, h7, h8, h9⟩ := hcell5 k ps hps
        injection h7 with h7
        injection h7 with h7
        subst h7
        have h10 := cell_up h5 hcu
        rw [h8] at h10
        injection h10 with h10
        rw [← h10]; exact h9
      replace hup2 := hide hup2
      replace hps := hide hps
      clear hup
      go_wp2_with (first
        | (go_at_call 15; refine (pointsOf_any u ps _ hup2.out hpl).mono ?_; rintro e w2 ⟨v2, rfl, hsp, hbl⟩; (obtain ⟨a2, c2, rfl, _⟩ := pts_at hsp.get); (have hown2 := hide (hbc.out.below hbl).2.2.1); (have hsz2 := hbl.size); (replace hsp := hide hsp); (replace hbl := hide hbl))
        | (at_builtin; refine wpList_append_at _ rfl _ _ 56 rfl (w.heap.size + 1) 50 i0 (.slice none 0 0) 1 24 under56 hi hz0 hz1 hz2 rfl (by decide) _ _ _ rfl (hown2.out.alloc _) ⟨w2.heap.size, 0, none⟩ 1 1 [.slice a2 ps.length c2] rfl (by decide) rfl (new_at w2 50 #[.slice a2 ps.length c2] _ rfl) (by simp [Value.oneCell']) (by unfold maxLen; rw [hdk.out]; omega) (by rw [hdk.out]; omega) (by simp; omega) ?_; intro v' w3 hown' hgrow hv'))
      have hdk2 : done.length = k := hdk.out
      obtain ⟨hB, hL⟩ := BuiltC.more (x := ps) hbc.out (hbl.out.trans ((below_alloc w2 _).mono hsz2)) ((hsp.out.imp fun w h => (⟨_, rfl, h⟩ : RowIt [_] ps w)).below (below_alloc w2 _)) rfl hb1 hown' hgrow hv'
      refine ⟨⟨k + 1, done ++ [ps], hlt, rfl, by rw [List.length_append, List.length_singleton, hdk2], by have := hgrow.size; simp at this; omega, hide ?_, hide hB, hide (hbel.out.trans (hL.mono (by omega)))⟩, by simp [intOf]; omega⟩
      rw [hd.out, List.take_add_one, hps.out]; rfl
    · go_wp2
      go_ret
      have hdk2 : done = rs := by rw [hd.out]; exact List.take_of_length_le (by omega)
      rw [hdk2] at hb
      exact ⟨_, rfl, (hb.out.sup.imp fun w h => .mline h).mono (by omega), hbel.out⟩

theorem polyshps_at {v : Value} {xs : List (List (List (Nat × Nat)))} {w : World} (h : IsSl 3 PolyShp v xs w) : ∃ ao cap, v = .slice ao xs.length cap ∧ ∀ (k : Nat) (rs : List (List (Nat × Nat))), xs[k]? = some rs →
    ∃ b lv, ao = some ⟨b, 0, none⟩ ∧ w.cell? ⟨b, k * 3, none⟩ = some (.int .i64 3) ∧ w.cell? ⟨b, k * 3 + 1, none⟩ = some lv ∧ w.cell? ⟨b, k * 3 + 2, none⟩ = some (.slice none 0 0) ∧ IsSl 1 RowIt lv rs w := by
  obtain ⟨ao, cap, h1, h2⟩ := h.shape (by decide)
  refine ⟨ao, cap, h1, fun k ps hk => ?_⟩
  obtain ⟨b, c, h3, _, ⟨lv, rfl, h4⟩, h5⟩ := h2 k _ hk
  exact ⟨b, lv, h3, by simpa using h5 0 _ rfl, h5 1 _ rfl, h5 2 _ rfl, h4⟩
set_option maxHeartbeats 1000000 in
set_option maxRecDepth 100000 in
theorem geo_mpoly (pv : Value) (rs : List (List (List (Nat × Nat)))) (w : World) (hv : Stay (IsSl 3 PolyShp pv rs) w) (hl : rs.length ≤ 1099511627776) (hl2 : ∀ ps ∈ rs, ps.length ≤ 1099511627776 ∧ ∀ p ∈ ps, p.length ≤ 1099511627776) :
    Calls Tryz.prog 8 #[.agg #[.int .i64 6, .slice none 0 0, pv]] w (GeoOut (.mpoly rs) w) := by
  obtain ⟨i0, hi, hz0, hz1, hz2⟩ := info_parts info52
  obtain ⟨ao, cap, rfl, _⟩ := polyshps_at hv.get
  replace hv := hide hv
  replace hl2 := hide hl2
  have hst := hide (World.ownsRow_made (base := w.heap.size + 1) (e := 52) (size := 1) (w.alloc (.cells #[.int .i64 6, .slice none 0 0, .slice ao rs.length cap] 26)) #[] 0 (by simp) (by decide) rfl)
  go_enter Tryz.func8, Tryz.ntmps8
  go_wp2
  go_loopw [6, 68] (fun vo i wr => ∃ (k : Nat) (done : List (List (List (Nat × Nat)))), k ≤ rs.length ∧ i = .int .i64 k ∧ done.length = k ∧ w.heap.size + 1 ≤ wr.heap.size ∧ Hid (done = rs.take k) ∧ Hid (Built (w.heap.size + 1) 52 1 PolyIt vo done wr) ∧ Hid (Below w.heap.size w wr))
    (fun _ i _ => rs.length - (intOf i).toNat)
  case atStart => exact ⟨0, [], Nat.zero_le _, rfl, rfl, by simp, hide (by simp), hide (Built.start (by simpa using hst.out)), hide ((below_alloc w _).alloc (by simp) _)⟩
  case round =>
    obtain ⟨k, done, hk, rfl, hdk, hb1, hd, hb, hbel⟩ := hrel
    obtain ⟨css, hbc⟩ := hb.out
    have hown := hide hbc.2.2.1
    replace hbc := hide hbc
    have hsz := hbel.out.size
    replace hdk := hide hdk
    by_cases hlt : k < rs.length
    · obtain ⟨ps, hps⟩ : ∃ p, rs[k]? = some p := ⟨_, List.getElem?_eq_getElem hlt⟩
      have hpl := hide (hl2.out ps (List.mem_of_getElem? hps))
      obtain ⟨ao', cap', he, hcell⟩ := polyshps_at (hv.out _ hbel.out)
      injection he with he1 _ he2
      subst he1; subst he2
      obtain ⟨b, u, rfl, hc0, hcu, hc2, hup⟩ := hcell k ps hps
      clear hcell
      have hup2 : Stay (IsSl 1 RowIt u ps) wr := by
        intro w5 h5
        obtain ⟨ao5, cap5, he5, hcell5⟩ := polyshps_at (hv.out _ (hbel.out.trans (h5.mono hsz)))
        injection he5 with h6 _ _
        subst h6
        obtain ⟨b5, u5, h7, _, h8, _, h9⟩ := hcell5 k ps hps
        injection h7 with h7
        injection h7 with h7
        subst h7
        have h10 := cell_up h5 hcu
        rw [h8] at h10
        injection h10 with h10
        rw [← h10]; exact h9
      obtain ⟨a9, c9, rfl, _⟩ := rows_at hup
      replace hup2 := hide hup2
      replace hps := hide hps
      clear hup
      go_wp2_with (first
        | (go_at_call 16; refine (polygonOf_any _ ps _ (hup2.out.below (below_alloc wr _)) hpl.out.1 hpl.out.2).mono ?_; rintro e w2 ⟨v2, rfl, hsp, hbl⟩; (obtain ⟨a2, c2, rfl, _⟩ := rows_at hsp.get); (have hbl2 := hide ((below_alloc wr _).trans (hbl.mono (by simp)))); (have hown2 := hide (hbc.out.below hbl2.out).2.2.1); (have hsz2 := hbl2.out.size); (have hsp2 := hide (hsp.mono (lo' := wr.heap.size) (by simp))); (clear hsp hbl))
        | (at_builtin; refine wpList_append_at _ rfl _ _ 58 rfl (w.heap.size + 1) 52 i0 (.slice none 0 0) 1 24 under58 hi hz0 hz1 hz2 rfl (by decide) _ _ _ rfl (hown2.out.alloc _) ⟨w2.heap.size, 0, none⟩ 1 1 [.slice a2 ps.length c2] rfl (by decide) rfl (new_at w2 52 #[.slice a2 ps.length c2] _ rfl) (by simp [Value.oneCell']) (by unfold maxLen; rw [hdk.out]; omega) (by rw [hdk.out]; omega) (by simp; omega) ?_; intro v' w3 hown' hgrow hv'))
      have hdk2 : done.length = k := hdk.out
      obtain ⟨hB, hL⟩ := BuiltC.more (x := ps) hbc.out (hbl2.out.trans ((below_alloc w2 _).mono hsz2)) ((hsp2.out.imp fun w h => (⟨_, rfl, h⟩ : PolyIt [_] ps w)).below (below_alloc w2 _)) rfl hb1 hown' hgrow hv'
      refine ⟨⟨k + 1, done ++ [ps], hlt, rfl, by rw [List.length_append, List.length_singleton, hdk2], by have := hgrow.size; simp at this; omega, hide ?_, hide hB, hide (hbel.out.trans (hL.mono (by omega)))⟩, by simp [intOf]; omega⟩
      rw [hd.out, List.take_add_one, hps.out]; rfl
    · go_wp2
      go_ret
      have hdk2 : done = rs := by rw [hd.out]; exact List.take_of_length_le (by omega)
      rw [hdk2] at hb
      exact ⟨_, rfl, (hb.out.sup.imp fun w h => .mpoly h).mono (by omega), hbel.out⟩

theorem shps_at {v : Value} {gs : List Geom} {w : World} (h : ShpIs w [.int .i64 7, .slice none 0 0, v] (.coll gs)) : ∃ ao cap, v = .slice ao gs.length cap ∧ ∀ (k : Nat) (g : Geom), gs[k]? = some g →
    ∃ b kd lv pv, ao = some ⟨b, 0, none⟩ ∧ w.cell? ⟨b, k * 3, none⟩ = some kd ∧ w.cell? ⟨b, k * 3 + 1, none⟩ = some lv ∧ w.cell? ⟨b, k * 3 + 2, none⟩ = some pv ∧ ShpIs w [kd, lv, pv] g := by
  cases h with
  | @coll v gs cs h hl hu =>
    obtain ⟨ao, cap, h1, h2⟩ := h.shape (by decide)
    refine ⟨ao, cap, by rw [h1, hl], fun k g hk => ?_⟩
    have hi : k < cs.length := by rw [hl]; exact (List.getElem?_eq_some_iff.mp hk).1
    obtain ⟨b, c, h3, hlen, h4, h5⟩ := h2 k cs[k] (List.getElem?_eq_getElem hi)
    have h6 : c = cs[k] := h4
    have h7 := hu k cs[k] g (List.getElem?_eq_getElem hi) hk
    rw [← h6] at h7
    match c, hlen, h5, h7 with
    | [x, y, z], _, h5, h7 => exact ⟨b, x, y, z, h3, by simpa using h5 0 _ rfl, h5 1 _ rfl, h5 2 _ rfl, h7⟩
set_option maxHeartbeats 1000000 in
set_option maxRecDepth 100000 in
theorem geo_coll (pv : Value) (rs : List Geom) (w : World) (hv : Stay (fun w => ShpIs w [.int .i64 7, .slice none 0 0, pv] (.coll rs)) w) (hl : rs.length ≤ 1099511627776)
    (hl2 : ∀ (i : Nat) (g : Geom), rs[i]? = some g → ∀ kd lv pv w, Stay (fun w => ShpIs w [kd, lv, pv] g) w → Calls Tryz.prog 8 #[.agg #[kd, lv, pv]] w (GeoOut g w)) :
    Calls Tryz.prog 8 #[.agg #[.int .i64 7, .slice none 0 0, pv]] w (GeoOut (.coll rs) w) := by
  obtain ⟨i0, hi, hz0, hz1, hz2⟩ := info_parts info33
  obtain ⟨ao, cap, rfl, _⟩ := shps_at hv.get
  replace hv := hide hv
  replace hl2 := hide hl2
  have hst := hide (World.ownsRow_made (base := w.heap.size + 1) (e := 33) (size := 1) (w.alloc (.cells #[.int .i64 7, .slice none 0 0, .slice ao rs.length cap] 26)) #[] 0 (by simp) (by decide) rfl)
  go_enter Tryz.func8, Tryz.ntmps8
  go_wp2
  go_loopw [9, 86] (fun vo i wr => ∃ (k : Nat) (done : List Geom), k ≤ rs.length ∧ i = .int .i64 k ∧ done.length = k ∧ w.heap.size + 1 ≤ wr.heap.size ∧ Hid (done = rs.take k) ∧ Hid (Built (w.heap.size + 1) 33 1 GeoIt vo done wr) ∧ Hid (Below w.heap.size w wr))
    (fun _ i _ => rs.length - (intOf i).toNat)
  case atStart => exact ⟨0, [], Nat.zero_le _, rfl, rfl, by simp, hide (by simp), hide (Built.start (by simpa using hst.out)), hide ((below_alloc w _).alloc (by simp) _)⟩
  case round =>
    obtain ⟨k, done, hk, rfl, hdk, hb1, hd, hb, hbel⟩ := hrel
    obtain ⟨css, hbc⟩ := hb.out
    have hown := hide hbc.2.2.1
    replace hbc := hide hbc
    have hsz := hbel.out.size
    replace hdk := hide hdk
    by_cases hlt : k < rs.length
    · obtain ⟨ps, hps⟩ : ∃ p, rs[k]? = some p := ⟨_, List.getElem?_eq_getElem hlt⟩
      have hpl := hide (hl2.out k ps hps)
      obtain ⟨ao', cap', he, hcell⟩ := shps_at (hv.out _ hbel.out)
      injection he with he1 _ he2
      subst he1; subst he2
      obtain ⟨b, kd, lv, qv, rfl, hc0, hc1, hc2, hup⟩ := hcell k ps hps
      clear hcell
      have hup2 : Stay (fun w => ShpIs w [kd, lv, qv] ps) wr := by
        intro w5 h5
        obtain ⟨ao5, cap5, he5, hcell5⟩ := shps_at (hv.out _ (hbel.out.trans (h5.mono hsz)))
        injection he5 with h6 _ _
        subst h6
        obtain ⟨b5, kd5, lv5, qv5, h7, g0, g1, g2, h9⟩ := hcell5 k ps hps
        injection h7 with h7
        injection h7 with h7
        subst h7
        rw [cell_up h5 hc0] at g0
        rw [cell_up h5 hc1] at g1
        rw [cell_up h5 hc2] at g2
        injection g0 with g0
        injection g1 with g1
        injection g2 with g2
        rw [g0, g1, g2]; exact h9
      obtain ⟨n0, a1, n1, c1, a2, n2, c2, rfl, rfl, rfl⟩ := hup.cells
      replace hup2 := hide hup2
      replace hps := hide hps
      clear hup
      go_wp2_with (first
        | (go_at_call 8; refine (hpl.out _ _ _ _ (hup2.out.below (below_alloc wr _))).mono ?_; rintro e w2 ⟨v2, rfl, hsp, hbl⟩; (obtain ⟨t9, p9, rfl⟩ := GeoIs.iface hsp.get); (have hbl2 := hide ((below_alloc wr _).trans (hbl.mono (by simp)))); (have hown2 := hide (hbc.out.below hbl2.out).2.2.1); (have hsz2 := hbl2.out.size); (have hsp2 := hide (hsp.mono (lo' := wr.heap.size) (by simp))); (clear hsp hbl))
        | (at_builtin; refine wpList_append_at _ rfl _ _ 60 rfl (w.heap.size + 1) 33 i0 .nilIface 1 16 under60 hi hz0 hz1 hz2 rfl (by decide) _ _ _ rfl (hown2.out.alloc _) ⟨w2.heap.size, 0, none⟩ 1 1 [.iface t9 p9] rfl (by decide) rfl (new_at w2 33 #[.iface t9 p9] _ rfl) (by simp [Value.oneCell']) (by unfold maxLen; rw [hdk.out]; omega) (by rw [hdk.out]; omega) (by simp; omega) ?_; intro v' w3 hown' hgrow hv'))
      have hdk2 : done.length = k := hdk.out
      obtain ⟨hB, hL⟩ := BuiltC.more (x := ps) hbc.out (hbl2.out.trans ((below_alloc w2 _).mono hsz2)) ((hsp2.out.imp fun w h => (⟨_, rfl, h⟩ : GeoIt [_] ps w)).below (below_alloc w2 _)) rfl hb1 hown' hgrow hv'
      refine ⟨⟨k + 1, done ++ [ps], hlt, rfl, by rw [List.length_append, List.length_singleton, hdk2], by have := hgrow.size; simp at this; omega, hide ?_, hide hB, hide (hbel.out.trans (hL.mono (by omega)))⟩, by simp [intOf]; omega⟩
      rw [hd.out, List.take_add_one, hps.out]; rfl
    · go_wp2
      go_ret
      have hdk2 : done = rs := by rw [hd.out]; exact List.take_of_length_le (by omega)
      rw [hdk2] at hb
      exact ⟨_, rfl, (hb.out.sup.imp fun w h => GeoIs.ofSl h).mono (by omega), hbel.out⟩

theorem geometry_any {g : Geom} (hs : Small g) : ∀ (kd lv pv : Value) (w : World), Stay (fun w => ShpIs w [kd, lv, pv] g) w → Calls Tryz.prog 8 #[.agg #[kd, lv, pv]] w (GeoOut g w) := by
  induction hs with
  | @pt p =>
    intro kd lv pv w hv
    have hg := hv.get
    cases hg with
    | pt h0 => exact geo_pt _ _ w (fun w' hw => by cases hv w' hw with | pt h => exact h)
  | @line ps h =>
    intro kd lv pv w hv
    have hg := hv.get
    cases hg with
    | line h0 => exact geo_line _ _ w (fun w' hw => by cases hv w' hw with | line h => exact h) h
  | @poly rs h h2 =>
    intro kd lv pv w hv
    have hg := hv.get
    cases hg with
    | poly h0 => exact geo_poly _ _ w (fun w' hw => by cases hv w' hw with | poly h => exact h) h h2
  | @mpt ps h =>
    intro kd lv pv w hv
    have hg := hv.get
    cases hg with
    | mpt h0 => exact geo_mpt _ _ w (fun w' hw => by cases hv w' hw with | mpt h => exact h) h
  | @mline rs h h2 =>
    intro kd lv pv w hv
    have hg := hv.get
    cases hg with
    | mline h0 => exact geo_mline _ _ w (fun w' hw => by cases hv w' hw with | mline h => exact h) h h2
  | @mpoly rs h h2 =>
    intro kd lv pv w hv
    have hg := hv.get
    cases hg with
    | mpoly h0 => exact geo_mpoly _ _ w (fun w' hw => by cases hv w' hw with | mpoly h => exact h) h h2
  | @coll gs h h2 ih =>
    intro kd lv pv w hv
    have hg := hv.get
    cases hg with
    | coll h0 hl hu => exact geo_coll _ _ w hv h fun i g hi kd lv pv w' hst => ih i g hi kd lv pv w' hst
end Go.Proofs.YtgmbjdoifkjdhaaGreatDoor
end
