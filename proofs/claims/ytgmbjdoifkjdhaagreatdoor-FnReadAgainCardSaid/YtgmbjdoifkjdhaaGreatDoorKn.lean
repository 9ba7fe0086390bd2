/- shapeOf, of polygons and of a collection. shapeOf, of a collection, and of all. Read. -/
import Derived.Test.YtgmbjdoifkjdhaaGreatDoorKm
section
namespace Go.Proofs.YtgmbjdoifkjdhaaGreatDoor
open Go.RowKit

theorem info26 : (Tryz.prog.info? 26).map (fun i => (i.zero, i.size, i.bytes)) = some (some (.agg #[.int .i64 0, .slice none 0 0, .slice none 0 0]), 3, 56) := by kernel_rfl
theorem under24 : Tryz.prog.underlying 24 = some (.slice 26) := by kernel_rfl
theorem polys_at {v : Value} {xs : List (List (List (Nat × Nat)))} {w : World} (h : IsSl 1 PolyIt v xs w) : ∃ ao cap, v = .slice ao xs.length cap ∧ ∀ (k : Nat) (rs : List (List (Nat × Nat))), xs[k]? = some rs → ∃ b u, ao = some ⟨b, 0, none⟩ ∧ w.cell? ⟨b, k, none⟩ = some u ∧ IsSl 1 RowIt u rs w := by
  obtain ⟨ao, cap, h1, h2⟩ := h.shape (by decide)
  refine ⟨ao, cap, h1, fun k ps hk => ?_⟩
  obtain ⟨b, c, h3, _, ⟨u, rfl, h4⟩, h5⟩ := h2 k _ hk
  exact ⟨b, u, h3, by simpa using h5 0 _ rfl, h4⟩

set_option maxHeartbeats 1000000 in
set_option maxRecDepth 100000 in
theorem shp_mpoly (v : Value) (rs : List (List (List (Nat × Nat)))) (w : World) (hv : Stay (IsSl 1 PolyIt v rs) w) (hl : rs.length ≤ 1099511627776) (hl2 : ∀ ps ∈ rs, ps.length ≤ 1099511627776 ∧ ∀ p ∈ ps, p.length ≤ 1099511627776) :
    Calls Tryz.prog 11 #[.iface 58 v] w (ShpOut (.mpoly rs) w) := by
  obtain ⟨i0, hi, hz0, hz1, hz2⟩ := info_parts info26
  obtain ⟨ao, cap, rfl, _⟩ := polys_at hv.get
  have t1 := ta_58_47
  have t2 := ta_58_50
  have t3 := ta_58_52
  have t4 := ta_58_54
  have t5 := ta_58_56
  have t6 := ta_58_58
  replace hv := hide hv
  replace hl2 := hide hl2
  go_enter Tryz.func11, Tryz.ntmps11
  go_wp2
  go_loopw [75] (fun i wr => ∃ (k : Nat) (lv : Value) (done : List (List (List (Nat × Nat)))), k ≤ rs.length ∧ i = .int .i64 k ∧ done.length = k ∧ Hid (done = rs.take k) ∧ Hid (Built (w.heap.size + 2) 26 3 PolyShp lv done wr) ∧ Hid (Below w.heap.size w wr) ∧
      Hid (Blk wr w.heap.size 26 #[.int .i64 0, .slice none 0 0, .slice none 0 0]) ∧ Hid (Blk wr (w.heap.size + 1) 26 #[.int .i64 6, .slice none 0 0, lv]))
    (fun i _ => rs.length - (intOf i).toNat)
  case atStart =>
    refine ⟨0, .slice none 0 0, [], Nat.zero_le _, rfl, rfl, hide (by simp), hide (Built.start (World.ownsRow_nil _ _ _ _)), hide ((below_alloc w _).trans ((below_alloc _ _).mono (by simp))), hide ((Blk.new w 26 _).alloc _), hide ?_⟩
    have := Blk.new (w.alloc (.cells #[.int .i64 0, .slice none 0 0, .slice none 0 0] 26)) 26 #[.int .i64 6, .slice none 0 0, .slice none 0 0]
    simpa using this
  case round =>
    obtain ⟨k, lv, done, hk, rfl, hdk, hd, hb, hbel, hB0, hB1⟩ := hrel
    obtain ⟨css, hbc⟩ := hb.out
    have hown := hide hbc.2.2.1
    replace hbc := hide hbc
    have hsz := hbel.out.size
    replace hdk := hide hdk
    have hlt1 := hB1.out.lt
    have hc0 := hB1.out.cell 0
    have hc1 := hB1.out.cell 1
    have hc2 := hB1.out.cell 2
    have hf1 := hB1.out.frozen 2
    simp only [List.getElem?_toArray, List.getElem?_cons_zero, List.getElem?_cons_succ] at hc0 hc1 hc2
    by_cases hlt : k < rs.length
    · obtain ⟨ps, hps⟩ : ∃ p, rs[k]? = some p := ⟨_, List.getElem?_eq_getElem hlt⟩
      have hpl := hl2.out ps (List.mem_of_getElem? hps)
      obtain ⟨ao', cap', he, hcell⟩ := polys_at (hv.out _ hbel.out)
      injection he with he1 _ he2
      subst he1; subst he2
      obtain ⟨b, u, rfl, hcu, hup⟩ := hcell k ps hps
      clear hcell
      have hup2 : Stay (IsSl 1 RowIt u ps) wr := by
        intro w5 h5
        obtain ⟨ao5, cap5, he5, hcell5⟩ := polys_at (hv.out _ (hbel.out.trans (h5.mono hsz)))
        injection he5 with h6 _ _
        subst h6
        obtain ⟨b5, u5, h7, h8, h9⟩ := hcell5 k ps hps
        injection h7 with h7
        injection h7 with h7
        subst h7
        have h10 := cell_up h5 hcu
        rw [h8] at h10
        injection h10 with h10
        rw [← h10]; exact h9
      replace hup2 := hide hup2
      replace hps := hide hps
      clear hup
      go_wp2
      go_region_law (first
        | (refine step_append_lies _ rfl _ _ 24 rfl (w.heap.size + 2) 26 i0 (.agg #[.int .i64 0, .slice none 0 0, .slice none 0 0]) 3 56 under24 hi hz0 hz1 hz2 rfl (by decide) lv done.length css.flatten rfl (hown2.out.alloc _) ⟨w2.heap.size, 0, none⟩ 1 1 [.int .i64 3, .slice a2 ps.length c2, .slice none 0 0] rfl rfl (new_at w2 26 #[.int .i64 3, .slice a2 ps.length c2, .slice none 0 0] _ rfl) (by simp [Value.oneCell']) (by decide) (by unfold maxLen; rw [hdk.out]; omega) (by rw [hdk.out]; omega) (by simp; omega) _ rfl ?_; intro g cp w3 hown' hgrow hv' hlt3; (have hB13 := (hB12.alloc _).grown hgrow (own_far hbc.out (by omega))); (have hd3 := hB13.cell 2); (have hf3 := hB13.frozen 2); (simp only [List.getElem?_toArray, List.getElem?_cons_zero, List.getElem?_cons_succ] at hd3))
        | (go_simp; go_at_call 31; refine (polyShape_any u ps _ (hup2.out.below (below_drewN (Below.refl _ _) _)) hpl.1 hpl.2).mono ?_; rintro e w2 ⟨v2, rfl, hsp, hbl⟩; (obtain ⟨a2, c2, rfl, _⟩ := rows_at hsp.get); (have hbl2 := hide ((below_drewN (Below.refl wr.heap.size wr) 1).trans hbl)); (have hB12 := hB1.out.below hbl2.out hlt1); (have hd1 := hB12.cell 2); (have hd2 := hB12.frozen 2); (have hlt2 := hB12.lt); (simp only [List.getElem?_toArray, List.getElem?_cons_zero, List.getElem?_cons_succ] at hd1); (have hown2 := hide (hbc.out.below hbl2.out).2.2.1); (have hsz2 := hbl2.out.size); (replace hsp := hide hsp)))
      all_goals (
        go_wp2
        have hdk2 : done.length = k := hdk.out
        obtain ⟨hB, hL⟩ := BuiltC.more (x := ps) hbc.out (hbl2.out.trans ((below_alloc w2 _).mono hsz2)) (((hsp.out.imp fun w h => (⟨_, rfl, h⟩ : PolyShp _ ps w))).below (below_alloc w2 _)) rfl (by omega) hown' hgrow (hv'.imp (fun h => h.symm) (fun h => by rw [h]; rfl))
        refine ⟨⟨k + 1, _, done ++ [ps], hlt, rfl, by rw [List.length_append, List.length_singleton, hdk2], hide ?_, hide (hB.setOff (Bw := w.heap.size + 1) (i := 2) (by omega) _), hide ((hbel.out.trans (hL.mono (by omega))).setCell (Nat.le_succ _) _), hide ((((hB0.out.below hbl2.out hB0.out.lt).alloc _).grown hgrow (own_far hbc.out (by omega))).far (by simp) _), hide (hB13.set 2 _)⟩, by simp [intOf]; omega⟩
        rw [hd.out, List.take_add_one, hps.out]; rfl)
    · have hk0 := hB0.out.cell 0
      have hk1 := hB0.out.cell 1
      have hk2 := hB0.out.cell 2
      have hg0 := hB0.out.frozen 0
      have hg1 := hB0.out.frozen 1
      have hg2 := hB0.out.frozen 2
      simp only [List.getElem?_toArray, List.getElem?_cons_zero, List.getElem?_cons_succ] at hk0 hk1 hk2
      obtain ⟨a2, c2, rfl⟩ := own_shape hown.out
      have hdk2 : done = rs := by rw [hd.out]; exact List.take_of_length_le (by omega)
      replace hdk2 := hide hdk2
      go_wp2
      (try simp only [Exit.inBlock, Exit.then])
      refine bodyPost_ret (results_26 rfl _ _ w.heap.size #[.int .i64 6, .slice none 0 0, .slice a2 done.length c2] rfl (((hB0.out.set 0 _).set 1 _).set 2 _) rfl) rfl ?_
      refine ⟨_, _, _, rfl, ?_, ((hbel.out.setCell (Nat.le_refl _) _).setCell (Nat.le_refl _) _).setCell (Nat.le_refl _) _⟩
      have h1 := (((hb.out.setOff (Bw := w.heap.size) (i := 0) (by omega) (.int .i64 6)).setOff (Bw := w.heap.size) (i := 1) (by omega) (.slice none 0 0)).setOff (Bw := w.heap.size) (i := 2) (by omega) (.slice a2 done.length c2)).sup
      rw [← hdk2.out]
      exact (h1.imp fun w h => .mpoly h).mono (by omega)
end Go.Proofs.YtgmbjdoifkjdhaaGreatDoor
end
section
namespace Go.Proofs.YtgmbjdoifkjdhaaGreatDoor
open Go.RowKit

theorem coll_at {v : Value} {gs : List Geom} {w : World} (h : GeoIs w (.iface 60 v) (.coll gs)) : ∃ ao cap, v = .slice ao gs.length cap ∧ ∀ (k : Nat) (g : Geom), gs[k]? = some g → ∃ b u, ao = some ⟨b, 0, none⟩ ∧ w.cell? ⟨b, k, none⟩ = some u ∧ GeoIs w u g := by
  cases h with
  | @coll v gs us h hl hu =>
    obtain ⟨ao, cap, h1, h2⟩ := h.shape (by decide)
    refine ⟨ao, cap, by rw [h1, hl], fun k g hk => ?_⟩
    have hi : k < us.length := by rw [hl]; exact (List.getElem?_eq_some_iff.mp hk).1
    obtain ⟨b, c, h3, _, h4, h5⟩ := h2 k us[k] (List.getElem?_eq_getElem hi)
    have h6 : c = [us[k]] := h4
    subst h6
    exact ⟨b, us[k], h3, by simpa using h5 0 _ rfl, hu k us[k] g (List.getElem?_eq_getElem hi) hk⟩
theorem sl_shape {X : Type} {size : Nat} {It : List Value → X → World → Prop} {v : Value} {xs : List X} {w : World} (h : IsSl size It v xs w) : ∃ a n c, v = .slice a n c := by
  obtain ⟨ao, cap, _, h1, _⟩ := h
  exact ⟨_, _, _, h1⟩
theorem ShpIs.cells {w : World} {kd lv pv : Value} {g : Geom} (h : ShpIs w [kd, lv, pv] g) : ∃ n a1 n1 c1 a2 n2 c2, kd = .int .i64 n ∧ lv = .slice a1 n1 c1 ∧ pv = .slice a2 n2 c2 := by
  cases h with
  | pt h => obtain ⟨a, n, c, rfl⟩ := sl_shape h; exact ⟨_, _, _, _, _, _, _, rfl, rfl, rfl⟩
  | line h => obtain ⟨a, n, c, rfl⟩ := sl_shape h; exact ⟨_, _, _, _, _, _, _, rfl, rfl, rfl⟩
  | poly h => obtain ⟨a, n, c, rfl⟩ := sl_shape h; exact ⟨_, _, _, _, _, _, _, rfl, rfl, rfl⟩
  | mpt h => obtain ⟨a, n, c, rfl⟩ := sl_shape h; exact ⟨_, _, _, _, _, _, _, rfl, rfl, rfl⟩
  | mline h => obtain ⟨a, n, c, rfl⟩ := sl_shape h; exact ⟨_, _, _, _, _, _, _, rfl, rfl, rfl⟩
  | mpoly h => obtain ⟨a, n, c, rfl⟩ := sl_shape h; exact ⟨_, _, _, _, _, _, _, rfl, rfl, rfl⟩
  | coll h _ _ => obtain ⟨a, n, c, rfl⟩ := sl_shape h; exact ⟨_, _, _, _, _, _, _, rfl, rfl, rfl⟩

set_option maxHeartbeats 1000000 in
set_option maxRecDepth 100000 in
theorem shp_coll (v : Value) (rs : List Geom) (w : World) (hv : Stay (fun w => GeoIs w (.iface 60 v) (.coll rs)) w) (hl : rs.length ≤ 1099511627776)
    (hl2 : ∀ (i : Nat) (g : Geom), rs[i]? = some g → ∀ u w, Stay (fun w => GeoIs w u g) w → Calls Tryz.prog 11 #[u] w (ShpOut g w)) :
    Calls Tryz.prog 11 #[.iface 60 v] w (ShpOut (.coll rs) w) := by
  obtain ⟨i0, hi, hz0, hz1, hz2⟩ := info_parts info26
  obtain ⟨ao, cap, rfl, _⟩ := coll_at hv.get
  have t1 := ta_60_47
  have t2 := ta_60_50
  have t3 := ta_60_52
  have t4 := ta_60_54
  have t5 := ta_60_56
  have t6 := ta_60_58
  have t7 := ta_60_60
  replace hv := hide hv
  replace hl2 := hide hl2
  go_enter Tryz.func11, Tryz.ntmps11
  go_wp2
  go_loopw [94] (fun i wr => ∃ (k : Nat) (lv : Value) (done : List Geom), k ≤ rs.length ∧ i = .int .i64 k ∧ done.length = k ∧ Hid (done = rs.take k) ∧ Hid (Built (w.heap.size + 2) 26 3 ShpIt lv done wr) ∧ Hid (Below w.heap.size w wr) ∧
      Hid (Blk wr w.heap.size 26 #[.int .i64 0, .slice none 0 0, .slice none 0 0]) ∧ Hid (Blk wr (w.heap.size + 1) 26 #[.int .i64 7, .slice none 0 0, lv]))
    (fun i _ => rs.length - (intOf i).toNat)
  case atStart =>
    refine ⟨0, .slice none 0 0, [], Nat.zero_le _, rfl, rfl, hide (by simp), hide (Built.start (World.ownsRow_nil _ _ _ _)), hide ((below_alloc w _).trans ((below_alloc _ _).mono (by simp))), hide ((Blk.new w 26 _).alloc _), hide ?_⟩
    have := Blk.new (w.alloc (.cells #[.int .i64 0, .slice none 0 0, .slice none 0 0] 26)) 26 #[.int .i64 7, .slice none 0 0, .slice none 0 0]
    simpa using this
  case round =>
    obtain ⟨k, lv, done, hk, rfl, hdk, hd, hb, hbel, hB0, hB1⟩ := hrel
    obtain ⟨css, hbc⟩ := hb.out
    have hown := hide hbc.2.2.1
    replace hbc := hide hbc
    have hsz := hbel.out.size
    replace hdk := hide hdk
    have hlt1 := hB1.out.lt
    have hc0 := hB1.out.cell 0
    have hc1 := hB1.out.cell 1
    have hc2 := hB1.out.cell 2
    have hf1 := hB1.out.frozen 2
    simp only [List.getElem?_toArray, List.getElem?_cons_zero, List.getElem?_cons_succ] at hc0 hc1 hc2
    by_cases hlt : k < rs.length
    · obtain ⟨ps, hps⟩ : ∃ p, rs[k]? = some p := ⟨_, List.getElem?_eq_getElem hlt⟩
      have hpl := hide (hl2.out k ps hps)
      obtain ⟨ao', cap', he, hcell⟩ := coll_at (hv.out _ hbel.out)
      injection he with he1 _ he2
      subst he1; subst he2
      obtain ⟨b, u, rfl, hcu, hup⟩ := hcell k ps hps
      clear hcell
      have hup2 : Stay (fun w => GeoIs w u ps) wr := by
        intro w5 h5
        obtain ⟨ao5, cap5, he5, hcell5⟩ := coll_at (hv.out _ (hbel.out.trans (h5.mono hsz)))
        injection he5 with h6 _ _
        subst h6
        obtain ⟨b5, u5, h7, h8, h9⟩ := hcell5 k ps hps
        injection h7 with h7
        injection h7 with h7
        subst h7
        have h10 := cell_up h5 hcu
        rw [h8] at h10
        injection h10 with h10
        rw [← h10]; exact h9
      replace hup2 := hide hup2
      replace hps := hide hps
      clear hup
      go_wp2
      go_region_law (first
        | (refine step_append_lies _ rfl _ _ 24 rfl (w.heap.size + 2) 26 i0 (.agg #[.int .i64 0, .slice none 0 0, .slice none 0 0]) 3 56 under24 hi hz0 hz1 hz2 rfl (by decide) lv done.length css.flatten rfl (hown2.out.alloc _) ⟨w2.heap.size, 0, none⟩ 1 1 [.int .i64 n, .slice a1 n1 c1, .slice a2 n2 c2] rfl rfl (new_at w2 26 #[.int .i64 n, .slice a1 n1 c1, .slice a2 n2 c2] _ rfl) (by simp [Value.oneCell']) (by decide) (by unfold maxLen; rw [hdk.out]; omega) (by rw [hdk.out]; omega) (by simp; omega) _ rfl ?_; intro g cp w3 hown' hgrow hv' hlt3; (have hB13 := (hB12.alloc _).grown hgrow (own_far hbc.out (by omega))); (have hd3 := hB13.cell 2); (have hf3 := hB13.frozen 2); (simp only [List.getElem?_toArray, List.getElem?_cons_zero, List.getElem?_cons_succ] at hd3))
        | (go_simp; go_at_call 11; refine (hpl.out u _ (hup2.out.below (below_drewN (Below.refl _ _) _))).mono ?_; rintro e w2 ⟨kd, lv2, pv2, rfl, hsp, hbl⟩; (obtain ⟨n, a1, n1, c1, a2, n2, c2, rfl, rfl, rfl⟩ := hsp.get.cells); (have hbl2 := hide ((below_drewN (Below.refl wr.heap.size wr) 1).trans hbl)); (have hB12 := hB1.out.below hbl2.out hlt1); (have hd1 := hB12.cell 2); (have hd2 := hB12.frozen 2); (have hlt2 := hB12.lt); (simp only [List.getElem?_toArray, List.getElem?_cons_zero, List.getElem?_cons_succ] at hd1); (have hown2 := hide (hbc.out.below hbl2.out).2.2.1); (have hsz2 := hbl2.out.size); (replace hsp := hide hsp)))
      all_goals (
        go_wp2
        have hdk2 : done.length = k := hdk.out
        obtain ⟨hB, hL⟩ := BuiltC.more (x := ps) hbc.out (hbl2.out.trans ((below_alloc w2 _).mono hsz2)) ((hsp.out.imp fun w h => (h : ShpIt _ ps w)).below (below_alloc w2 _)) rfl (by omega) hown' hgrow (hv'.imp (fun h => h.symm) (fun h => by rw [h]; rfl))
        refine ⟨⟨k + 1, _, done ++ [ps], hlt, rfl, by rw [List.length_append, List.length_singleton, hdk2], hide ?_, hide (hB.setOff (Bw := w.heap.size + 1) (i := 2) (by omega) _), hide ((hbel.out.trans (hL.mono (by omega))).setCell (Nat.le_succ _) _), hide ((((hB0.out.below hbl2.out hB0.out.lt).alloc _).grown hgrow (own_far hbc.out (by omega))).far (by simp) _), hide (hB13.set 2 _)⟩, by simp [intOf]; omega⟩
        rw [hd.out, List.take_add_one, hps.out]; rfl)
    · have hk0 := hB0.out.cell 0
      have hk1 := hB0.out.cell 1
      have hk2 := hB0.out.cell 2
      have hg0 := hB0.out.frozen 0
      have hg1 := hB0.out.frozen 1
      have hg2 := hB0.out.frozen 2
      simp only [List.getElem?_toArray, List.getElem?_cons_zero, List.getElem?_cons_succ] at hk0 hk1 hk2
      obtain ⟨a2, c2, rfl⟩ := own_shape hown.out
      have hdk2 : done = rs := by rw [hd.out]; exact List.take_of_length_le (by omega)
      replace hdk2 := hide hdk2
      go_wp2
      (try simp only [Exit.inBlock, Exit.then])
      refine bodyPost_ret (results_26 rfl _ _ w.heap.size #[.int .i64 7, .slice none 0 0, .slice a2 done.length c2] rfl (((hB0.out.set 0 _).set 1 _).set 2 _) rfl) rfl ?_
      refine ⟨_, _, _, rfl, ?_, ((hbel.out.setCell (Nat.le_refl _) _).setCell (Nat.le_refl _) _).setCell (Nat.le_refl _) _⟩
      have h1 := (((hb.out.setOff (Bw := w.heap.size) (i := 0) (by omega) (.int .i64 7)).setOff (Bw := w.heap.size) (i := 1) (by omega) (.slice none 0 0)).setOff (Bw := w.heap.size) (i := 2) (by omega) (.slice a2 done.length c2)).sup
      rw [← hdk2.out]
      exact (h1.imp fun w h => ShpIs.ofSl h).mono (by omega)

/-- No list of more than 2 ^ 40. -/
inductive Small : Geom → Prop
  | pt {p : Nat × Nat} : Small (.pt p)
  | line {ps : List (Nat × Nat)} (h : ps.length ≤ 1099511627776) : Small (.line ps)
  | poly {rs : List (List (Nat × Nat))} (h : rs.length ≤ 1099511627776) (h2 : ∀ r ∈ rs, r.length ≤ 1099511627776) : Small (.poly rs)
  | mpt {ps : List (Nat × Nat)} (h : ps.length ≤ 1099511627776) : Small (.mpt ps)
  | mline {rs : List (List (Nat × Nat))} (h : rs.length ≤ 1099511627776) (h2 : ∀ r ∈ rs, r.length ≤ 1099511627776) : Small (.mline rs)
  | mpoly {xs : List (List (List (Nat × Nat)))} (h : xs.length ≤ 1099511627776) (h2 : ∀ ps ∈ xs, ps.length ≤ 1099511627776 ∧ ∀ p ∈ ps, p.length ≤ 1099511627776) : Small (.mpoly xs)
  | coll {gs : List Geom} (h : gs.length ≤ 1099511627776) (h2 : ∀ (i : Nat) (g : Geom), gs[i]? = some g → Small g) : Small (.coll gs)
theorem shapeOf_any {g : Geom} (hs : Small g) : ∀ (v : Value) (w : World), Stay (fun w => GeoIs w v g) w → Calls Tryz.prog 11 #[v] w (ShpOut g w) := by
  induction hs with
  | @pt p => intro v w hv; cases hv.get; exact shp_pt p w
  | @line ps h =>
    intro v w hv
    have hg := hv.get
    cases hg with
    | @line v ps h0 => exact shp_line _ _ w (fun w' hw => by cases hv w' hw with | line h => exact h) h
  | @poly rs h h2 =>
    intro v w hv
    have hg := hv.get
    cases hg with
    | @poly v ps h0 => exact shp_poly _ _ w (fun w' hw => by cases hv w' hw with | poly h => exact h) h h2
  | @mpt ps h =>
    intro v w hv
    have hg := hv.get
    cases hg with
    | @mpt v ps h0 => exact shp_mpt _ _ w (fun w' hw => by cases hv w' hw with | mpt h => exact h) h
  | @mline rs h h2 =>
    intro v w hv
    have hg := hv.get
    cases hg with
    | @mline v ps h0 => exact shp_mline _ _ w (fun w' hw => by cases hv w' hw with | mline h => exact h) h h2
  | @mpoly rs h h2 =>
    intro v w hv
    have hg := hv.get
    cases hg with
    | @mpoly v ps h0 => exact shp_mpoly _ _ w (fun w' hw => by cases hv w' hw with | mpoly h => exact h) h h2
  | @coll gs h h2 ih =>
    intro v w hv
    have hg := hv.get
    cases hg with
    | @coll v gs us h0 hl hu => exact shp_coll _ _ w hv h fun i g hi u w' hst => ih i g hi u w' hst
end Go.Proofs.YtgmbjdoifkjdhaaGreatDoor
end
section
namespace Go.Proofs.YtgmbjdoifkjdhaaGreatDoor
open Go.RowKit

theorem All2.mem2' {X : Type} {R : List UInt8 → X → Prop} {ps : List (List UInt8)} {xs : List X} (h : All2 R ps xs) : ∀ x ∈ xs, ∃ p ∈ ps, R p x := by
  induction h with
  | nil => intro x hx; cases hx
  | cons h1 _ ih =>
    intro x hx
    rcases List.mem_cons.mp hx with rfl | hx
    · exact ⟨_, List.mem_cons_self .., h1⟩
    · obtain ⟨p, hp, hr⟩ := ih x hx; exact ⟨p, List.mem_cons_of_mem _ hp, hr⟩
theorem Trims.len {ps : List (List UInt8)} {us : List ByteArray} (h : Trims ps us) : us.length = ps.length := by
  induction h with
  | nil => rfl
  | cons _ _ ih => rw [List.length_cons, List.length_cons, ih]
theorem rsp_length (s : ByteArray) : ∀ (ms : List (Nat × Nat)) (a : Nat), (rsp s a ms).length = ms.length + 1 := by
  intro ms
  induction ms with
  | nil => intro a; rfl
  | cons m ms ih => intro a; obtain ⟨f, t⟩ := m; simp [rsp, ih]
theorem ex_le (s : ByteArray) (a b : Nat) : (ex s a b).length ≤ s.size := by
  unfold ex
  rw [List.length_drop, List.length_take, bs_len]
  omega
theorem rsp_mem (s : ByteArray) : ∀ (ms : List (Nat × Nat)) (a : Nat), ∀ p ∈ rsp s a ms, p.length ≤ s.size := by
  intro ms
  induction ms with
  | nil => intro a p hp; simp [rsp] at hp; subst hp; exact ex_le _ _ _
  | cons m ms ih =>
    intro a p hp
    obtain ⟨f, t⟩ := m
    simp only [rsp] at hp
    rcases List.mem_cons.mp hp with rfl | hp
    · exact ex_le _ _ _
    · exact ih t p hp
theorem parts_size {t : ByteArray} {dbl : Bool} {ps : List (List UInt8)} (h : Parts t dbl ps) : ps.length ≤ t.size + 1 ∧ ∀ p ∈ ps, p.length ≤ t.size := by
  obtain ⟨ms, h1, rfl⟩ := h
  refine ⟨?_, rsp_mem t ms 0⟩
  rw [rsp_length]
  rcases h1.len with h2 | rfl
  · omega
  · simp
theorem gsp_len (l : List UInt8) : ∀ d cur, (gsp l d cur).length ≤ l.length + 1 := by
  induction l with
  | nil => intro d cur; simp [gsp]
  | cons c t ih =>
    intro d cur
    simp only [gsp, List.length_cons]
    split
    · have := ih (d + 1) (cur ++ [c]); omega
    · split
      · have := ih (d - 1) (cur ++ [c]); omega
      · split
        · split
          · have := ih d []; rw [List.length_cons]; omega
          · have := ih d (cur ++ [c]); omega
        · have := ih d (cur ++ [c]); omega
theorem ring_size {NT : List UInt8 → Nat → Prop} {l : List UInt8} {ps : List (Nat × Nat)} (h : RingR NT l ps) : ps.length ≤ l.length + 1 := by
  obtain ⟨t, h1, h2⟩ := h
  have h3 := h1.1
  rw [tx_size] at h3
  rw [h2.len]
  have h4 := commaParts_length (bs t)
  have h5 := commasN_le (bs t)
  rw [bs_len] at h5
  omega
theorem mps_size {NT : List UInt8 → Nat → Prop} {l : List UInt8} {ps : List (Nat × Nat)} (h : MpsR NT l ps) : ps.length ≤ l.length + 1 := by
  obtain ⟨t, h1, h2⟩ := h
  have h3 := h1.1
  rw [tx_size] at h3
  rw [h2.len]
  have h4 := commaParts_length (bs t)
  have h5 := commasN_le (bs t)
  rw [bs_len] at h5
  omega
theorem poly_size {NT : List UInt8 → Nat → Prop} {l : List UInt8} {rs : List (List (Nat × Nat))} (h : PolyR NT l rs) : rs.length ≤ l.length + 1 ∧ ∀ r ∈ rs, r.length ≤ l.length + 1 := by
  obtain ⟨t, ps, h1, h2, h3⟩ := h
  have h4 := h1.1
  rw [tx_size] at h4
  obtain ⟨h5, h6⟩ := parts_size h2
  refine ⟨by rw [h3.len]; omega, fun r hr => ?_⟩
  obtain ⟨p, hp, hpr⟩ := h3.mem2' r hr
  have := ring_size hpr
  have := h6 p hp
  omega
theorem mpoly_size {NT : List UInt8 → Nat → Prop} {l : List UInt8} {xs : List (List (List (Nat × Nat)))} (h : MpolyR NT l xs) : xs.length ≤ l.length + 1 ∧ ∀ rs ∈ xs, rs.length ≤ l.length + 1 ∧ ∀ r ∈ rs, r.length ≤ l.length + 1 := by
  obtain ⟨t, ps, h1, h2, h3⟩ := h
  have h4 := h1.1
  rw [tx_size] at h4
  obtain ⟨h5, h6⟩ := parts_size h2
  refine ⟨by rw [h3.len]; omega, fun r hr => ?_⟩
  obtain ⟨p, hp, hpr⟩ := h3.mem2' r hr
  have h7 := poly_size hpr
  have h8 := h6 p hp
  exact ⟨by omega, fun q hq => by have := h7.2 q hq; omega⟩
theorem ext_len (s : ByteArray) (n : Nat) : (bs (s.extract n s.size)).length ≤ s.size := by
  rw [bs_extract, List.length_drop, List.length_take, bs_len]; omega
theorem unr_small {NT : List UInt8 → Nat → Prop} {s : ByteArray} {g : Geom} (h : UnR NT s g) : s.size ≤ 1099511627775 → Small g := by
  induction h with
  | pt _ _ _ => exact fun _ => .pt
  | @line s0 s ps ht _ h =>
    intro hs
    have h1 := ht.1
    rcases h.2 with ⟨rfl, _⟩ | h2
    · exact .line (by simp)
    · exact .line (by have := ring_size h2; have := ext_len s 10; omega)
  | @poly s0 s ps ht _ h =>
    intro hs
    have h1 := ht.1
    rcases h.2 with ⟨rfl, _⟩ | h2
    · exact .poly (by simp) (by simp)
    · have h3 := poly_size h2
      have h4 := ext_len s 7
      exact .poly (by omega) fun r hr => by have := h3.2 r hr; omega
  | @mpt s0 s ps ht _ h =>
    intro hs
    have h1 := ht.1
    rcases h.2 with ⟨rfl, _⟩ | h2
    · exact .mpt (by simp)
    · exact .mpt (by have := mps_size h2; have := ext_len s 10; omega)
  | @mline s0 s ps ht _ h =>
    intro hs
    have h1 := ht.1
    rcases h.2 with ⟨rfl, _⟩ | h2
    · exact .mline (by simp) (by simp)
    · have h3 := poly_size h2
      have h4 := ext_len s 15
      exact .mline (by omega) fun r hr => by have := h3.2 r hr; omega
  | @mpoly s0 s ps ht _ h =>
    intro hs
    have h1 := ht.1
    rcases h.2 with ⟨rfl, _⟩ | h2
    · exact .mpoly (by simp) (by simp)
    · have h3 := mpoly_size h2
      have h4 := ext_len s 12
      exact .mpoly (by omega) fun r hr => ⟨by have := (h3.2 r hr).1; omega, fun q hq => by have := (h3.2 r hr).2 q hq; omega⟩
  | empty _ _ _ => exact fun _ => .coll (by simp) (by simp)
  | @coll s0 s t us gs ht _ _ hb hu hl _ ih =>
    intro hs
    have h1 := ht.1
    have h2 := hb.1
    have h3 : (s.extract 18 s.size).size ≤ s.size := by rw [← bs_len]; exact ext_len s 18
    have h4 := gsp_len (bs t) 0 []
    have h5 := hu.len
    rw [bs_len] at h4
    refine .coll (by omega) fun i g hg => ?_
    have hi : i < us.length := by rw [hl]; exact (List.getElem?_eq_some_iff.mp hg).1
    refine ih i us[i] g (List.getElem?_eq_getElem hi) hg ?_
    have h6 := hu.size (n := t.size) (fun p hp => by have := gsp_size (bs t) 0 [] p hp; rw [bs_len, List.length_nil] at this; omega) us[i] (List.getElem_mem hi)
    omega
theorem results_26b {fn : Func} {p u : Tmp} (h : fn.results = #[.cell p 26, .tmp u]) (tmps : Array Value) (w : World) (g : Nat) (cs : Array Value)
    (hp : tmps.getD p undef = .pointer (some ⟨g, 0, none⟩)) (hg : Blk w g 26 cs) (hs : cs.size = 3) :
    (results fn tmps).run Tryz.prog w = .ok (.tuple #[.agg cs, tmps.getD u undef]) w := by
  have hp' : tmps[p]?.getD undef = .pointer (some ⟨g, 0, none⟩) := by simpa using hp
  simp [results, h, hp', asAddr, load_agg 26 w g 3 cs agg26 size26 hg hs]
/-- What Read answers. -/
def ReadRes (NT : List UInt8 → Nat → Prop) (s : ByteArray) (lo : Nat) (v : Value) (w : World) : Prop :=
  (∃ kd lv pv g, v = .tuple #[.agg #[kd, lv, pv], .bool true] ∧ Sup lo (fun w => ShpIs w [kd, lv, pv] g) w ∧ UnR NT s g) ∨
  (v = .tuple #[.agg #[.int .i64 0, .slice none 0 0, .slice none 0 0], .bool false] ∧ UnBad NT s)
set_option maxHeartbeats 1000000 in
set_option maxRecDepth 100000 in
theorem read_any {NT : List UInt8 → Nat → Prop} (N : NumIO NT) (B : Nat) (s : ByteArray) (w : World) (hg : Glob B w) (hs : s.size ≤ 1099511627775) :
    Calls Tryz.prog 6 #[.string s] w fun e w' => (∃ v, e = .returned v ∧ ReadRes NT s w.heap.size v w') ∧ Below w.heap.size w w' := by
  have hG := hide (hg.up (below_alloc w (.cells #[.int .i64 0, .slice none 0 0, .slice none 0 0] 26)))
  clear hg
  go_enter Tryz.func6, Tryz.ntmps6
  go_wp2_with (first
    | (go_at_call 10; refine (unmarshal_any N B s.size s _ (Nat.le_refl _) hG.out (by omega)).mono ?_; rintro e w2 ⟨⟨v, ⟨g, rfl, hsg, hug⟩ | ⟨t, q, rfl, hub⟩⟩, hbl⟩; all_goals (have hB := (Blk.new w 26 #[.int .i64 0, .slice none 0 0, .slice none 0 0]).below hbl (by simp); have hk0 := hB.cell 0; have hk1 := hB.cell 1; have hk2 := hB.cell 2; have hg0 := hB.frozen 0; have hg1 := hB.frozen 1; have hg2 := hB.frozen 2; simp only [List.getElem?_toArray, List.getElem?_cons_zero, List.getElem?_cons_succ] at hk0 hk1 hk2; have hlt := hB.lt; replace hB := hide hB; replace hbl := hide hbl); all_goals (first | (obtain ⟨ti, pi, rfl⟩ := GeoIs.iface hsg.get; replace hsg := hide hsg) | skip))
    | (go_at_call 11; refine (shapeOf_any (unr_small hug hs) _ _ hsg.out.stay).mono ?_; rintro e w3 ⟨kd, lv, pv, rfl, hsp, hbl3⟩; (have hB3 := hB.out.below hbl3 hlt); (have hk0 := hB3.cell 0); (have hk1 := hB3.cell 1); (have hk2 := hB3.cell 2); (have hg0 := hB3.frozen 0); (have hg1 := hB3.frozen 1); (have hg2 := hB3.frozen 2); (simp only [List.getElem?_toArray, List.getElem?_cons_zero, List.getElem?_cons_succ] at hk0 hk1 hk2); (have hlt3 := hB3.lt); (obtain ⟨n, a1, n1, c1, a2, n2, c2, rfl, rfl, rfl⟩ := hsp.get.cells); (replace hB3 := hide hB3); (replace hsp := hide hsp); (replace hbl3 := hide hbl3)))
  · (try simp only [Exit.inBlock, Exit.then])
    refine bodyPost_ret (results_26b rfl _ _ w.heap.size #[.int .i64 n, .slice a1 n1 c1, .slice a2 n2 c2] rfl (((hB3.out.set 0 _).set 1 _).set 2 _) rfl) rfl ?_
    have hle : w.heap.size + 1 ≤ w2.heap.size := hlt
    refine ⟨⟨_, rfl, .inl ⟨_, _, _, g, rfl, ?_, hug⟩⟩, ?_⟩
    · exact (((hsp.out.setOff ⟨w.heap.size, 0, none⟩ hle _).setOff ⟨w.heap.size, 1, none⟩ hle _).setOff ⟨w.heap.size, 2, none⟩ hle _).mono (by omega)
    · exact ((((((below_alloc w _).trans (hbl.out.mono (by simp))).trans (hbl3.out.mono (by omega))).setCell (Nat.le_refl _) _).setCell (Nat.le_refl _) _).setCell (Nat.le_refl _) _)
  · (try simp only [Exit.inBlock, Exit.then])
    refine bodyPost_ret (results_26b rfl _ _ w.heap.size #[.int .i64 0, .slice none 0 0, .slice none 0 0] rfl (((hB.out.set 0 _).set 1 _).set 2 _) rfl) rfl ?_
    exact ⟨⟨_, rfl, .inr ⟨rfl, hub⟩⟩, ((((below_alloc w _).trans (hbl.out.mono (by simp))).setCell (Nat.le_refl _) _).setCell (Nat.le_refl _) _).setCell (Nat.le_refl _) _⟩
end Go.Proofs.YtgmbjdoifkjdhaaGreatDoor
end
