/- listOf. polygonShape. Shapes: how an impl.Shape lies in memory. -/
import Derived.Test.YtgmbjdoifkjdhaaGreatDoorKk
import Derived.Deep.AppendLies
import Derived.Deep.RegionLaw
section
namespace Go.Proofs.YtgmbjdoifkjdhaaGreatDoor
open Go.RowKit

/-- R holds in w, and in every world that keeps the blocks of w. -/
def Stay (R : World → Prop) (w : World) : Prop := ∀ w', Below w.heap.size w w' → R w'
theorem Stay.get {R : World → Prop} {w : World} (h : Stay R w) : R w := h w (Below.refl _ _)
theorem Stay.below {R : World → Prop} {w w' : World} (h : Stay R w) (hb : Below w.heap.size w w') : Stay R w' := fun w2 h2 => h w2 (hb.trans (h2.mono hb.size))
theorem Sup.stay {lo : Nat} {R : World → Prop} {w : World} (h : Sup lo R w) : Stay R w := fun _ hb => (h.below hb).get
theorem info38 : (Tryz.prog.info? 38).map (fun i => (i.zero, i.size, i.bytes)) = some (some (.agg #[.float .f64 0, .float .f64 0]), 2, 16) := by kernel_rfl
theorem under39 : Tryz.prog.underlying 39 = some (.slice 38) := by kernel_rfl
theorem pts_at {v : Value} {ps : List (Nat × Nat)} {w : World} (h : IsSl 2 PtIt v ps w) : ∃ ao cap, v = .slice ao ps.length cap ∧ ∀ (k x y : Nat), ps[k]? = some (x, y) → ∃ b, ao = some ⟨b, 0, none⟩ ∧ w.cell? ⟨b, k * 2, none⟩ = some (.float .f64 x) ∧ w.cell? ⟨b, k * 2 + 1, none⟩ = some (.float .f64 y) := by
  obtain ⟨ao, cap, h1, h2⟩ := h.shape (by decide)
  refine ⟨ao, cap, h1, fun k x y hk => ?_⟩
  obtain ⟨b, c, h3, _, h4, h5⟩ := h2 k _ hk
  have h6 : c = [.float .f64 x, .float .f64 y] := h4
  subst h6
  exact ⟨b, h3, h5 0 _ rfl, h5 1 _ rfl⟩

set_option maxHeartbeats 1000000 in
set_option maxRecDepth 100000 in
theorem listOf_any (v : Value) (ps : List (Nat × Nat)) (w : World) (hv : Stay (IsSl 2 PtIt v ps) w) (hl : ps.length ≤ 1099511627776) :
    Calls Tryz.prog 30 #[v] w fun e w' => ∃ v', e = .returned v' ∧ Sup w.heap.size (IsSl 2 PtIt v' ps) w' ∧ Below w.heap.size w w' := by
  obtain ⟨i0, hi, hz0, hz1, hz2⟩ := info_parts info38
  obtain ⟨ao, cap, rfl, _⟩ := pts_at hv.get
  have hsf := store_float
  replace hv := hide hv
  have hst := hide (World.ownsRow_made (base := w.heap.size) (e := 38) (size := 2) w #[] 0 (Nat.le_refl _) (by decide) rfl)
  go_enter Tryz.func30, Tryz.ntmps30
  go_wp2
  go_loopw [3, 9] (fun vo i wr => ∃ (k : Nat) (done : List (Nat × Nat)), k ≤ ps.length ∧ i = .int .i64 k ∧ done.length = k ∧ Hid (done = ps.take k) ∧ Hid (Built w.heap.size 38 2 PtIt vo done wr) ∧ Hid (Below w.heap.size w wr))
    (fun _ i _ => ps.length - (intOf i).toNat)
  case atStart => exact ⟨0, [], Nat.zero_le _, rfl, rfl, hide (by simp), hide (Built.start hst.out), hide (below_alloc w _)⟩
  case round =>
    obtain ⟨k, done, hk, rfl, hdk, hd, hb, hbel⟩ := hrel
    obtain ⟨css, hbc⟩ := hb.out
    have hown := hide hbc.2.2.1
    replace hbc := hide hbc
    have hsz := hbel.out.size
    replace hdk := hide hdk
    by_cases hlt : k < ps.length
    · obtain ⟨⟨x, y⟩, hxy⟩ : ∃ p, ps[k]? = some p := ⟨_, List.getElem?_eq_getElem hlt⟩
      obtain ⟨ao', cap', he, hcell⟩ := pts_at (hv.out _ hbel.out)
      injection he with he1 _ he2
      subst he1; subst he2
      obtain ⟨b, rfl, hc0, hc1⟩ := hcell k x y hxy
      clear hcell
      replace hxy := hide hxy
      go_wp2_with (first
        | (at_builtin; refine wpList_append_at _ rfl _ _ 39 rfl w.heap.size 38 i0 (.agg #[.float .f64 0, .float .f64 0]) 2 16 under39 hi hz0 hz1 hz2 rfl (by decide) _ _ _ rfl ((hown.out.alloc _).alloc _) ⟨wr.heap.size + 1, 0, none⟩ 1 1 [.float .f64 x, .float .f64 y] rfl (by decide) rfl (new_at (wr.alloc _) 38 #[.float .f64 x, .float .f64 y] _ (by simp)) (by simp [Value.oneCell']) (by unfold maxLen; rw [hdk.out]; omega) (by rw [hdk.out]; omega) (by simp; omega) ?_; intro v' w3 hown' hgrow hv'))
      have hdk2 : done.length = k := hdk.out
      obtain ⟨hB, hL⟩ := BuiltC.more (x := (x, y)) hbc.out ((below_alloc wr _).trans ((below_alloc _ _).mono (by simp))) (Sup.pure rfl) rfl hsz hown' hgrow hv'
      refine ⟨⟨k + 1, done ++ [(x, y)], hlt, rfl, by rw [List.length_append, List.length_singleton, hdk2], hide ?_, hide hB, hide (hbel.out.trans hL)⟩, by simp [intOf]; omega⟩
      rw [hd.out, List.take_add_one, hxy.out]; rfl
    · go_wp2
      go_ret
      have hdk2 : done = ps := by rw [hd.out]; exact List.take_of_length_le (by omega)
      rw [hdk2] at hb
      exact ⟨_, rfl, hb.out.sup, hbel.out⟩
theorem under48 : Tryz.prog.underlying 48 = some (.slice 47) := by kernel_rfl
set_option maxHeartbeats 1000000 in
set_option maxRecDepth 100000 in
theorem pointsOf_any (v : Value) (ps : List (Nat × Nat)) (w : World) (hv : Stay (IsSl 2 PtIt v ps) w) (hl : ps.length ≤ 1099511627776) :
    Calls Tryz.prog 15 #[v] w fun e w' => ∃ v', e = .returned v' ∧ Sup w.heap.size (IsSl 2 PtIt v' ps) w' ∧ Below w.heap.size w w' := by
  obtain ⟨i0, hi, hz0, hz1, hz2⟩ := info_parts info47
  obtain ⟨ao, cap, rfl, _⟩ := pts_at hv.get
  have hsf := store_float
  replace hv := hide hv
  have hst := hide (World.ownsRow_made (base := w.heap.size) (e := 47) (size := 2) w #[] 0 (Nat.le_refl _) (by decide) rfl)
  go_enter Tryz.func15, Tryz.ntmps15
  go_wp2
  go_loopw [3, 9] (fun vo i wr => ∃ (k : Nat) (done : List (Nat × Nat)), k ≤ ps.length ∧ i = .int .i64 k ∧ done.length = k ∧ Hid (done = ps.take k) ∧ Hid (Built w.heap.size 47 2 PtIt vo done wr) ∧ Hid (Below w.heap.size w wr))
    (fun _ i _ => ps.length - (intOf i).toNat)
  case atStart => exact ⟨0, [], Nat.zero_le _, rfl, rfl, hide (by simp), hide (Built.start hst.out), hide (below_alloc w _)⟩
  case round =>
    obtain ⟨k, done, hk, rfl, hdk, hd, hb, hbel⟩ := hrel
    obtain ⟨css, hbc⟩ := hb.out
    have hown := hide hbc.2.2.1
    replace hbc := hide hbc
    have hsz := hbel.out.size
    replace hdk := hide hdk
    by_cases hlt : k < ps.length
    · obtain ⟨⟨x, y⟩, hxy⟩ : ∃ p, ps[k]? = some p := ⟨_, List.getElem?_eq_getElem hlt⟩
      obtain ⟨ao', cap', he, hcell⟩ := pts_at (hv.out _ hbel.out)
      injection he with he1 _ he2
      subst he1; subst he2
      obtain ⟨b, rfl, hc0, hc1⟩ := hcell k x y hxy
      clear hcell
      replace hxy := hide hxy
      go_wp2_with (first
        | (at_builtin; refine wpList_append_at _ rfl _ _ 48 rfl w.heap.size 47 i0 (.agg #[.float .f64 0, .float .f64 0]) 2 16 under48 hi hz0 hz1 hz2 rfl (by decide) _ _ _ rfl ((hown.out.alloc _).alloc _) ⟨wr.heap.size + 1, 0, none⟩ 1 1 [.float .f64 x, .float .f64 y] rfl (by decide) rfl (new_at (wr.alloc _) 47 #[.float .f64 x, .float .f64 y] _ (by simp)) (by simp [Value.oneCell']) (by unfold maxLen; rw [hdk.out]; omega) (by rw [hdk.out]; omega) (by simp; omega) ?_; intro v' w3 hown' hgrow hv'))
      have hdk2 : done.length = k := hdk.out
      obtain ⟨hB, hL⟩ := BuiltC.more (x := (x, y)) hbc.out ((below_alloc wr _).trans ((below_alloc _ _).mono (by simp))) (Sup.pure rfl) rfl hsz hown' hgrow hv'
      refine ⟨⟨k + 1, done ++ [(x, y)], hlt, rfl, by rw [List.length_append, List.length_singleton, hdk2], hide ?_, hide hB, hide (hbel.out.trans hL)⟩, by simp [intOf]; omega⟩
      rw [hd.out, List.take_add_one, hxy.out]; rfl
    · go_wp2
      go_ret
      have hdk2 : done = ps := by rw [hd.out]; exact List.take_of_length_le (by omega)
      rw [hdk2] at hb
      exact ⟨_, rfl, hb.out.sup, hbel.out⟩
end Go.Proofs.YtgmbjdoifkjdhaaGreatDoor
end
section
namespace Go.Proofs.YtgmbjdoifkjdhaaGreatDoor
open Go.RowKit

def isAgg' (d : TypeDesc) : Bool := match d with | .struct _ => true | .array _ _ => true | _ => false
theorem agg_some (o : Option TypeDesc) (h : o.map isAgg' = some true) : ∃ d, o = some d ∧ isAgg' d = true := by
  cases o with
  | none => cases h
  | some d => exact ⟨d, rfl, by injection h⟩
theorem size26 : (Tryz.prog.info? 26).map (·.size) = some 3 := by kernel_rfl
theorem agg26 : (Tryz.prog.underlying 26).map isAgg' = some true := by kernel_rfl
theorem load_agg (t : TypeId) (w : World) (g n : Nat) (cs : Array Value) (ha : (Tryz.prog.underlying t).map isAgg' = some true) (hn : (Tryz.prog.info? t).map (·.size) = some n) (hg : Blk w g t cs) (hs : cs.size = n) : (loadVar t ⟨g, 0, none⟩).run Tryz.prog w = .ok (.agg cs) w := by
  obtain ⟨d, hu, hd⟩ := agg_some _ ha
  subst hs
  cases d with
  | struct f => exact run_loadVar_row w g t t cs (0, 0) _ hg hu rfl hn
  | array n t' => exact run_loadVar_row w g t t cs (0, 0) _ hg hu rfl hn
  | _ => cases hd
theorem results_26 {fn : Func} {p : Tmp} (h : fn.results = #[.cell p 26]) (tmps : Array Value) (w : World) (g : Nat) (cs : Array Value)
    (hp : tmps.getD p undef = .pointer (some ⟨g, 0, none⟩)) (hg : Blk w g 26 cs) (hs : cs.size = 3) : (results fn tmps).run Tryz.prog w = .ok (.agg cs) w := by
  have hp' : tmps[p]?.getD undef = .pointer (some ⟨g, 0, none⟩) := by simpa using hp
  simp [results, h, hp', asAddr, load_agg 26 w g 3 cs agg26 size26 hg hs]
theorem info39 : (Tryz.prog.info? 39).map (fun i => (i.zero, i.size, i.bytes)) = some (some (.slice none 0 0), 1, 24) := by kernel_rfl
theorem under23 : Tryz.prog.underlying 23 = some (.slice 39) := by kernel_rfl
theorem rows_at {v : Value} {rs : List (List (Nat × Nat))} {w : World} (h : IsSl 1 RowIt v rs w) : ∃ ao cap, v = .slice ao rs.length cap ∧ ∀ (k : Nat) (ps : List (Nat × Nat)), rs[k]? = some ps → ∃ b u, ao = some ⟨b, 0, none⟩ ∧ w.cell? ⟨b, k, none⟩ = some u ∧ IsSl 2 PtIt u ps w := by
  obtain ⟨ao, cap, h1, h2⟩ := h.shape (by decide)
  refine ⟨ao, cap, h1, fun k ps hk => ?_⟩
  obtain ⟨b, c, h3, _, ⟨u, rfl, h4⟩, h5⟩ := h2 k _ hk
  exact ⟨b, u, h3, by simpa using h5 0 _ rfl, h4⟩

theorem Built.setOff {X : Type} {base e size : Nat} {It : List Value → X → World → Prop} {v : Value} {xs : List X} {w : World} (h : Built base e size It v xs w) {Bw i : Nat} (hs : Bw < base) (u : Value) : Built base e size It v xs (w.setCell ⟨Bw, i, none⟩ u) := by
  obtain ⟨css, h1, h2, h3, F, h4, h5⟩ := h
  have hset : ∀ g, g ≠ Bw → (w.setCell ⟨Bw, i, none⟩ u).heap[g]? = w.heap[g]? := fun g hg => Below.heap_setCell w ⟨Bw, i, none⟩ u g hg
  refine ⟨css, h1, h2, ⟨h3.1, ?_⟩, F, fun g hg => ⟨(h4 g hg).1, by rw [size_set]; exact (h4 g hg).2.1, (h4 g hg).2.2⟩, fun w' hw => h5 w' fun g hg => ?_⟩
  · rcases h3.2 with hn | ⟨g, cap, cur, rfl, hb, hgg, rest⟩
    · exact .inl hn
    · exact .inr ⟨g, cap, cur, rfl, hb, by rw [hset g (by omega)]; exact hgg, rest⟩
  · rw [hw g hg, hset g (by have := (h4 g hg).1; omega)]
set_option maxHeartbeats 1000000 in
set_option maxRecDepth 100000 in
theorem polyShape_any (v : Value) (rs : List (List (Nat × Nat))) (w : World) (hv : Stay (IsSl 1 RowIt v rs) w) (hl : rs.length ≤ 1099511627776) (hl2 : ∀ ps ∈ rs, ps.length ≤ 1099511627776) :
    Calls Tryz.prog 31 #[v] w fun e w' => ∃ lv, e = .returned (.agg #[.int .i64 3, lv, .slice none 0 0]) ∧ Sup w.heap.size (IsSl 1 RowIt lv rs) w' ∧ Below w.heap.size w w' := by
  obtain ⟨i0, hi, hz0, hz1, hz2⟩ := info_parts info39
  obtain ⟨ao, cap, rfl, _⟩ := rows_at hv.get
  replace hv := hide hv
  go_enter Tryz.func31, Tryz.ntmps31
  go_wp2
  go_loopw [9] (fun i wr => ∃ (k : Nat) (lv : Value) (done : List (List (Nat × Nat))), k ≤ rs.length ∧ i = .int .i64 k ∧ done.length = k ∧ Hid (done = rs.take k) ∧ Hid (Built (w.heap.size + 2) 39 1 RowIt lv done wr) ∧ Hid (Below w.heap.size w wr) ∧
      Hid (Blk wr w.heap.size 26 #[.int .i64 0, .slice none 0 0, .slice none 0 0]) ∧ Hid (Blk wr (w.heap.size + 1) 26 #[.int .i64 3, lv, .slice none 0 0]))
    (fun i _ => rs.length - (intOf i).toNat)
  case atStart =>
    refine ⟨0, .slice none 0 0, [], Nat.zero_le _, rfl, rfl, hide (by simp), hide (Built.start (World.ownsRow_nil _ _ _ _)), hide ((below_alloc w _).trans ((below_alloc _ _).mono (by simp))), hide ((Blk.new w 26 _).alloc _), hide ?_⟩
    have := Blk.new (w.alloc (.cells #[.int .i64 0, .slice none 0 0, .slice none 0 0] 26)) 26 #[.int .i64 3, .slice none 0 0, .slice none 0 0]
    simpa using this
  case round =>
    obtain ⟨k, lv, done, hk, rfl, hdk, hd, hb, hbel, hB0, hB1⟩ := hrel
    obtain ⟨css, hbc⟩ := hb.out
    have hown := hide hbc.2.2.1
    replace hbc := hide hbc
    have hsz := hbel.out.size
    replace hdk := hide hdk
    have hlt1 := hB1.out.lt
    have hc0 := hB1.out.cell 0
    have hc1 := hB1.out.cell 1
    have hc2 := hB1.out.cell 2
    have hf1 := hB1.out.frozen 1
    simp only [List.getElem?_toArray, List.getElem?_cons_zero, List.getElem?_cons_succ] at hc0 hc1 hc2
    by_cases hlt : k < rs.length
    · obtain ⟨ps, hps⟩ : ∃ p, rs[k]? = some p := ⟨_, List.getElem?_eq_getElem hlt⟩
      have hpl := hl2 ps (List.mem_of_getElem? hps)
      obtain ⟨ao', cap', he, hcell⟩ := rows_at (hv.out _ hbel.out)
      injection he with he1 _ he2
      subst he1; subst he2
      obtain ⟨b, u, rfl, hcu, hup⟩ := hcell k ps hps
      clear hcell
      have hup2 : Stay (IsSl 2 PtIt u ps) wr := by
        intro w5 h5
        obtain ⟨ao5, cap5, he5, hcell5⟩ := rows_at (hv.out _ (hbel.out.trans (h5.mono hsz)))
        injection he5 with h6 _ _
        subst h6
        obtain ⟨b5, u5, h7, h8, h9⟩ := hcell5 k ps hps
        injection h7 with h7
        injection h7 with h7
        subst h7
        have h10 := cell_up h5 hcu
        rw [h8] at h10
        injection h10 with h10
        rw [← h10]; exact h9
      replace hup2 := hide hup2
      replace hps := hide hps
      clear hup
      go_wp2
      go_region_law (first
        | (refine step_append_lies _ rfl _ _ 23 rfl (w.heap.size + 2) 39 i0 (.slice none 0 0) 1 24 under23 hi hz0 hz1 hz2 rfl (by decide) lv done.length css.flatten rfl (hown2.out.alloc _) ⟨w2.heap.size, 0, none⟩ 1 1 [.slice a2 ps.length c2] rfl rfl (new_at w2 39 #[.slice a2 ps.length c2] _ rfl) (by simp [Value.oneCell']) (by decide) (by unfold maxLen; rw [hdk.out]; omega) (by rw [hdk.out]; omega) (by simp; omega) _ rfl ?_; intro g cp w3 hown' hgrow hv' hlt3; (have hB13 := (hB12.alloc _).grown hgrow (own_ne hbc.out hB1.out (by decide))); (have hd3 := hB13.cell 1); (have hf3 := hB13.frozen 1); (simp only [List.getElem?_toArray, List.getElem?_cons_zero, List.getElem?_cons_succ] at hd3))
        | (go_simp; go_at_call 30; refine (listOf_any u ps _ (hup2.out.below (below_drewN (Below.refl _ _) _)) hpl).mono ?_; rintro e w2 ⟨v2, rfl, hsp, hbl⟩; (obtain ⟨a2, c2, rfl, _⟩ := pts_at hsp.get); (have hbl2 := hide ((below_drewN (Below.refl wr.heap.size wr) 1).trans hbl)); (have hB12 := hB1.out.below hbl2.out hlt1); (have hd1 := hB12.cell 1); (have hd2 := hB12.frozen 1); (have hlt2 := hB12.lt); (simp only [List.getElem?_toArray, List.getElem?_cons_zero, List.getElem?_cons_succ] at hd1); (have hown2 := hide (hbc.out.below hbl2.out).2.2.1); (have hsz2 := hbl2.out.size); (replace hsp := hide hsp)))
      all_goals (
        go_wp2
        have hdk2 : done.length = k := hdk.out
        obtain ⟨hB, hL⟩ := BuiltC.more (x := ps) hbc.out (hbl2.out.trans ((below_alloc w2 _).mono hsz2)) (((hsp.out.imp fun w h => (⟨_, rfl, h⟩ : RowIt [_] ps w))).below (below_alloc w2 _)) rfl (by omega) hown' hgrow (hv'.imp (fun h => h.symm) (fun h => by rw [h]; rfl))
        refine ⟨⟨k + 1, _, done ++ [ps], hlt, rfl, by rw [List.length_append, List.length_singleton, hdk2], hide ?_, hide (hB.setOff (Bw := w.heap.size + 1) (i := 1) (by omega) _), hide ((hbel.out.trans (hL.mono (by omega))).setCell (Nat.le_succ _) _), hide ((((hB0.out.below hbl2.out hB0.out.lt).alloc _).grown hgrow (own_ne hbc.out hB0.out (by decide))).far (by simp) _), hide (hB13.set 1 _)⟩, by simp [intOf]; omega⟩
        rw [hd.out, List.take_add_one, hps.out]; rfl)
    · have hk0 := hB0.out.cell 0
      have hk1 := hB0.out.cell 1
      have hk2 := hB0.out.cell 2
      have hg0 := hB0.out.frozen 0
      have hg1 := hB0.out.frozen 1
      have hg2 := hB0.out.frozen 2
      simp only [List.getElem?_toArray, List.getElem?_cons_zero, List.getElem?_cons_succ] at hk0 hk1 hk2
      obtain ⟨a2, c2, rfl⟩ := own_shape hown.out
      have hdk2 : done = rs := by rw [hd.out]; exact List.take_of_length_le (by omega)
      replace hdk2 := hide hdk2
      go_wp2
      (try simp only [Exit.inBlock, Exit.then])
      refine bodyPost_ret (results_26 rfl _ _ w.heap.size #[.int .i64 3, .slice a2 done.length c2, .slice none 0 0] rfl (((hB0.out.set 0 _).set 1 _).set 2 _) rfl) rfl ?_
      refine ⟨_, rfl, ?_, ((hbel.out.setCell (Nat.le_refl _) _).setCell (Nat.le_refl _) _).setCell (Nat.le_refl _) _⟩
      have h1 := (((hb.out.setOff (Bw := w.heap.size) (i := 0) (by omega) (.int .i64 3)).setOff (Bw := w.heap.size) (i := 1) (by omega) (.slice a2 done.length c2)).setOff (Bw := w.heap.size) (i := 2) (by omega) (.slice none 0 0)).sup
      rw [← hdk2.out]
      exact h1.mono (by omega)
end Go.Proofs.YtgmbjdoifkjdhaaGreatDoor
end
section
namespace Go.Proofs.YtgmbjdoifkjdhaaGreatDoor
open Go.RowKit

/-- The shape of a polygon: kind, lists, no parts. -/
def PolyShp (c : List Value) (rs : List (List (Nat × Nat))) (w : World) : Prop := ∃ lv, c = [.int .i64 3, lv, .slice none 0 0] ∧ IsSl 1 RowIt lv rs w
/-- How an impl.Shape lies in memory: kind, lists, parts. -/
inductive ShpIs (w : World) : List Value → Geom → Prop
  | pt {lv : Value} {p : Nat × Nat} (h : IsSl 1 RowIt lv [[p]] w) : ShpIs w [.int .i64 1, lv, .slice none 0 0] (.pt p)
  | line {lv : Value} {ps : List (Nat × Nat)} (h : IsSl 1 RowIt lv [ps] w) : ShpIs w [.int .i64 2, lv, .slice none 0 0] (.line ps)
  | poly {lv : Value} {rs : List (List (Nat × Nat))} (h : IsSl 1 RowIt lv rs w) : ShpIs w [.int .i64 3, lv, .slice none 0 0] (.poly rs)
  | mpt {lv : Value} {ps : List (Nat × Nat)} (h : IsSl 1 RowIt lv [ps] w) : ShpIs w [.int .i64 4, lv, .slice none 0 0] (.mpt ps)
  | mline {lv : Value} {rs : List (List (Nat × Nat))} (h : IsSl 1 RowIt lv rs w) : ShpIs w [.int .i64 5, lv, .slice none 0 0] (.mline rs)
  | mpoly {pv : Value} {xs : List (List (List (Nat × Nat)))} (h : IsSl 3 PolyShp pv xs w) : ShpIs w [.int .i64 6, .slice none 0 0, pv] (.mpoly xs)
  | coll {pv : Value} {gs : List Geom} {cs : List (List Value)} (h : IsSl 3 (fun c u _ => c = u) pv cs w) (hl : cs.length = gs.length) (hu : ∀ (i : Nat) (c : List Value) (g : Geom), cs[i]? = some c → gs[i]? = some g → ShpIs w c g) : ShpIs w [.int .i64 7, .slice none 0 0, pv] (.coll gs)
def ShpIt (c : List Value) (g : Geom) (w : World) : Prop := ShpIs w c g
theorem ShpIs.ofSl {w : World} {pv : Value} {gs : List Geom} (h : IsSl 3 ShpIt pv gs w) : ShpIs w [.int .i64 7, .slice none 0 0, pv] (.coll gs) := by
  obtain ⟨ao, cap, css, h1, h2, h3, h4, h5⟩ := h
  refine .coll (cs := css) ⟨ao, cap, css, by rw [h2]; exact h1, rfl, h3, h4, ?_⟩ h2 (fun i c g hc hg => h5 i c g hc hg)
  intro i c u hc hu
  rw [hc] at hu
  injection hu with hu
end Go.Proofs.YtgmbjdoifkjdhaaGreatDoor
end
