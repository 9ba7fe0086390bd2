/- Geometries: what they are, how they lie in memory, what is read; the reader of a collection. -/
import Derived.Test.YtgmbjdoifkjdhaaGreatDoorKi
namespace Go.Proofs.YtgmbjdoifkjdhaaGreatDoor
open Go.RowKit

inductive Geom where
  | pt (p : Nat × Nat)
  | line (ps : List (Nat × Nat))
  | poly (rs : List (List (Nat × Nat)))
  | mpt (ps : List (Nat × Nat))
  | mline (rs : List (List (Nat × Nat)))
  | mpoly (xs : List (List (List (Nat × Nat))))
  | coll (gs : List Geom)

/-- How an orb.Geometry lies in memory. -/
inductive GeoIs (w : World) : Value → Geom → Prop
  | pt {p : Nat × Nat} : GeoIs w (.iface 47 (.agg #[.float .f64 p.1, .float .f64 p.2])) (.pt p)
  | line {v : Value} {ps : List (Nat × Nat)} (h : IsSl 2 PtIt v ps w) : GeoIs w (.iface 50 v) (.line ps)
  | poly {v : Value} {rs : List (List (Nat × Nat))} (h : IsSl 1 RowIt v rs w) : GeoIs w (.iface 52 v) (.poly rs)
  | mpt {v : Value} {ps : List (Nat × Nat)} (h : IsSl 2 PtIt v ps w) : GeoIs w (.iface 54 v) (.mpt ps)
  | mline {v : Value} {rs : List (List (Nat × Nat))} (h : IsSl 1 RowIt v rs w) : GeoIs w (.iface 56 v) (.mline rs)
  | mpoly {v : Value} {xs : List (List (List (Nat × Nat)))} (h : IsSl 1 PolyIt v xs w) : GeoIs w (.iface 58 v) (.mpoly xs)
  | coll {v : Value} {gs : List Geom} {us : List Value} (h : IsSl 1 (fun c u _ => c = [u]) v us w) (hl : us.length = gs.length) (hu : ∀ (i : Nat) (u : Value) (g : Geom), us[i]? = some u → gs[i]? = some g → GeoIs w u g) : GeoIs w (.iface 60 v) (.coll gs)
def GeoIt (c : List Value) (g : Geom) (w : World) : Prop := ∃ u, c = [u] ∧ GeoIs w u g
theorem GeoIs.ofSl {w : World} {v : Value} {gs : List Geom} (h : IsSl 1 GeoIt v gs w) : GeoIs w (.iface 60 v) (.coll gs) := by
  obtain ⟨ao, cap, css, h1, h2, h3, h4, h5⟩ := h
  have hc : ∀ i c, css[i]? = some c → ∃ u, c = [u] := fun i c hc => by
    have hg : i < gs.length := by rw [← h2]; exact (List.getElem?_eq_some_iff.mp hc).1
    obtain ⟨u, hu, _⟩ := h5 i c gs[i] hc (List.getElem?_eq_getElem hg)
    exact ⟨u, hu⟩
  refine .coll (us := css.map fun c => c.headD .nilIface) ?_ (by rw [List.length_map, h2]) ?_
  · refine ⟨ao, cap, css, by rw [List.length_map, h2]; exact h1, by rw [List.length_map], h3, h4, ?_⟩
    intro i c u hci hui
    rw [List.getElem?_map, hci] at hui
    obtain ⟨u', rfl⟩ := hc i c hci
    simp at hui; rw [hui]
  · intro i u g hui hgi
    rw [List.getElem?_map] at hui
    cases hci : css[i]? with
    | none => rw [hci] at hui; simp at hui
    | some c =>
      rw [hci] at hui
      obtain ⟨u', rfl, hu'⟩ := h5 i c g hci hgi
      simp at hui; rw [← hui]; exact hu'

def litPoint : ByteArray := ⟨#[80, 79, 73, 78, 84]⟩
/-- What is read from a text. -/
inductive UnR (NT : List UInt8 → Nat → Prop) : ByteArray → Geom → Prop
  | pt {s0 s : ByteArray} {p : Nat × Nat} (ht : TrimR s0 s) (hp : Pre s litPoint 5) (h : MemR NT (bs (s.extract 5 s.size)) p) : UnR NT s0 (.pt p)
  | line {s0 s : ByteArray} {ps : List (Nat × Nat)} (ht : TrimR s0 s) (hp : Pre s litLine 10) (h : RdR (RingR NT) s litLine 10 ps) : UnR NT s0 (.line ps)
  | poly {s0 s : ByteArray} {rs : List (List (Nat × Nat))} (ht : TrimR s0 s) (hp : Pre s litPoly 7) (h : RdR (PolyR NT) s litPoly 7 rs) : UnR NT s0 (.poly rs)
  | mpt {s0 s : ByteArray} {ps : List (Nat × Nat)} (ht : TrimR s0 s) (hp : Pre s litMulti 10) (h : RdR (MpsR NT) s litMulti 10 ps) : UnR NT s0 (.mpt ps)
  | mline {s0 s : ByteArray} {rs : List (List (Nat × Nat))} (ht : TrimR s0 s) (hp : Pre s litMline 15) (h : RdR (PolyR NT) s litMline 15 rs) : UnR NT s0 (.mline rs)
  | mpoly {s0 s : ByteArray} {xs : List (List (List (Nat × Nat)))} (ht : TrimR s0 s) (hp : Pre s litMpoly 12) (h : RdR (MpolyR NT) s litMpoly 12 xs) : UnR NT s0 (.mpoly xs)
  | empty {s0 s : ByteArray} (ht : TrimR s0 s) (hp : Pre s litColl 18) (h : Emp s litColl) : UnR NT s0 (.coll [])
  | coll {s0 s t : ByteArray} {us : List ByteArray} {gs : List Geom} (ht : TrimR s0 s) (hp : Pre s litColl 18) (hne : s ≠ litColl) (hb : BrOk (s.extract 18 s.size) t) (hu : Trims (gsp (bs t) 0 []) us) (hl : us.length = gs.length)
      (h : ∀ (i : Nat) (u : ByteArray) (g : Geom), us[i]? = some u → gs[i]? = some g → UnR NT u g) : UnR NT s0 (.coll gs)
/-- Why nothing is read from a text. -/
inductive UnBad (NT : List UInt8 → Nat → Prop) : ByteArray → Prop
  | none {s0 s : ByteArray} (ht : TrimR s0 s) (h1 : ¬ Pre s litPoint 5) (h2 : ¬ Pre s litLine 10) (h3 : ¬ Pre s litPoly 7) (h4 : ¬ Pre s litMulti 10) (h5 : ¬ Pre s litMline 15) (h6 : ¬ Pre s litMpoly 12) (h7 : ¬ Pre s litColl 18) : UnBad NT s0
  | pt {s0 s : ByteArray} (ht : TrimR s0 s) (hp : Pre s litPoint 5) (h : MemBad NT (bs (s.extract 5 s.size))) : UnBad NT s0
  | line {s0 s : ByteArray} (ht : TrimR s0 s) (hp : Pre s litLine 10) (h : RdBad (RingBad NT) s litLine 10) : UnBad NT s0
  | poly {s0 s : ByteArray} (ht : TrimR s0 s) (hp : Pre s litPoly 7) (h : RdBad (PolyBad NT) s litPoly 7) : UnBad NT s0
  | mpt {s0 s : ByteArray} (ht : TrimR s0 s) (hp : Pre s litMulti 10) (h : RdBad (MpsBad NT) s litMulti 10) : UnBad NT s0
  | mline {s0 s : ByteArray} (ht : TrimR s0 s) (hp : Pre s litMline 15) (h : RdBad (PolyBad NT) s litMline 15) : UnBad NT s0
  | mpoly {s0 s : ByteArray} (ht : TrimR s0 s) (hp : Pre s litMpoly 12) (h : RdBad (MpolyBad NT) s litMpoly 12) : UnBad NT s0
  | short {s0 s : ByteArray} (ht : TrimR s0 s) (hp : Pre s litColl 18) (h : s.size = 18) : UnBad NT s0
  | brackets {s0 s : ByteArray} (ht : TrimR s0 s) (hp : Pre s litColl 18) (hne : s ≠ litColl) (h : BrBad (s.extract 18 s.size)) : UnBad NT s0
  | member {s0 s t : ByteArray} {us : List ByteArray} {u : ByteArray} (ht : TrimR s0 s) (hp : Pre s litColl 18) (hne : s ≠ litColl) (hb : BrOk (s.extract 18 s.size) t) (hu : Trims (gsp (bs t) 0 []) us) (hm : u ∈ us) (h : UnBad NT u) : UnBad NT s0

theorem gsp_size (l : List UInt8) : ∀ d cur, ∀ p ∈ gsp l d cur, p.length ≤ cur.length + l.length := by
  induction l with
  | nil => intro d cur p hp; simp [gsp] at hp; subst hp; simp
  | cons c t ih =>
    intro d cur p hp
    simp only [gsp] at hp
    rw [List.length_cons]
    split at hp
    · have := ih _ _ p hp; rw [List.length_append, List.length_singleton] at this; omega
    · split at hp
      · have := ih _ _ p hp; rw [List.length_append, List.length_singleton] at this; omega
      · split at hp
        · split at hp
          · rcases List.mem_cons.mp hp with rfl | hp
            · omega
            · have := ih _ _ p hp; rw [List.length_nil] at this; omega
          · have := ih _ _ p hp; rw [List.length_append, List.length_singleton] at this; omega
        · have := ih _ _ p hp; rw [List.length_append, List.length_singleton] at this; omega
theorem Trims.size {ps : List (List UInt8)} {us : List ByteArray} (h : Trims ps us) {n : Nat} (hn : ∀ p ∈ ps, p.length ≤ n) : ∀ u ∈ us, u.size ≤ n := by
  induction h with
  | nil => intro u hu; simp at hu
  | cons h1 _ ih =>
    intro u hu
    rcases List.mem_cons.mp hu with rfl | hu
    · have h2 := h1.1
      rw [tx_size] at h2
      exact Nat.le_trans h2 (hn _ (List.mem_cons_self ..))
    · exact ih (fun p hp => hn p (by simp [hp])) u hu
theorem GeoIs.iface {w : World} {v : Value} {g : Geom} (h : GeoIs w v g) : ∃ t p, v = .iface t p := by
  cases h <;> exact ⟨_, _, rfl⟩
/-- What Unmarshal answers. -/
def UnOut (NT : List UInt8 → Nat → Prop) (u : ByteArray) (w : World) (e : Ending) (w' : World) : Prop :=
  (∃ v, (∃ g, e = .returned (.tuple #[v, .nilIface]) ∧ Sup w.heap.size (fun w => GeoIs w v g) w' ∧ UnR NT u g) ∨ (∃ t q, e = .returned (.tuple #[v, .iface t q]) ∧ UnBad NT u)) ∧ Below w.heap.size w w'
def CollR (NT : List UInt8 → Nat → Prop) (s : ByteArray) (gs : List Geom) : Prop :=
  (gs = [] ∧ Emp s litColl) ∨ (s ≠ litColl ∧ ∃ t us, BrOk (s.extract 18 s.size) t ∧ Trims (gsp (bs t) 0 []) us ∧ us.length = gs.length ∧ ∀ (i : Nat) (u : ByteArray) (g : Geom), us[i]? = some u → gs[i]? = some g → UnR NT u g)
def CollBad (NT : List UInt8 → Nat → Prop) (s : ByteArray) : Prop :=
  s.size = 18 ∨ (s ≠ litColl ∧ BrBad (s.extract 18 s.size)) ∨ (s ≠ litColl ∧ ∃ t us u, BrOk (s.extract 18 s.size) t ∧ Trims (gsp (bs t) 0 []) us ∧ u ∈ us ∧ UnBad NT u)
theorem info33 : (Tryz.prog.info? 33).map (fun i => (i.zero, i.size, i.bytes)) = some (some .nilIface, 1, 16) := by kernel_rfl
theorem under60 : Tryz.prog.underlying 60 = some (.slice 33) := by kernel_rfl
theorem strs_at {v : Value} {us : List ByteArray} {w : World} (h : IsSl 1 StrIt v us w) : ∃ ao cap, v = .slice ao us.length cap ∧ ∀ (k : Nat) (u : ByteArray), us[k]? = some u → ∃ b, ao = some ⟨b, 0, none⟩ ∧ w.cell? ⟨b, k, none⟩ = some (.string u) := by
  obtain ⟨ao, cap, h1, h2⟩ := h.shape (by decide)
  refine ⟨ao, cap, h1, fun k u hk => ?_⟩
  obtain ⟨b, c, h3, _, h4, h5⟩ := h2 k u hk
  have h6 : c = [.string u] := h4
  subst h6
  have := h5 0 _ rfl
  exact ⟨b, h3, by simpa using this⟩

set_option maxHeartbeats 2000000 in
set_option maxRecDepth 100000 in
theorem rdColl {NT : List UInt8 → Nat → Prop} (B : Nat) (s0 : ByteArray) (w : World) (hg : Glob B w) (hs : s0.size ≤ 1099511627776) (hp : Pre s0 litColl 18)
    (hun : ∀ (u : ByteArray) (w : World), Glob B w → u.size + 18 ≤ s0.size → Calls Tryz.prog 10 #[.string u] w (UnOut NT u w)) :
    Calls Tryz.prog 29 #[.string s0] w fun e w' => (∃ v, (∃ gs, e = .returned (.tuple #[v, .nilIface]) ∧ Sup w.heap.size (IsSl 1 GeoIt v gs) w' ∧ CollR NT s0 gs) ∨
      (∃ t q, e = .returned (.tuple #[v, .iface t q]) ∧ CollBad NT s0)) ∧ Below w.heap.size w w' := by
  have hf : FoldT s0 litColl := foldT_of hp (by decide) (by decide)
  have hn := hp.1
  have hgs := hg.size
  obtain ⟨i0, hi, hz0, hz1, hz2⟩ := info_parts info33
  obtain ⟨et, ep, he1⟩ := hg.e1
  have hse : (s0.extract 18 s0.size).size = s0.size - 18 := extract_size _ _ _ (Nat.le_refl _)
  replace hse := hide hse
  replace hg := hide hg
  replace hf := hide hf
  replace hp := hide hp
  replace hun := hide hun
  go_enter Tryz.func29, Tryz.ntmps29
  go_wp2_with (first
    | (go_at_call 42; (refine (fold_any B s0 litColl _ hg.out (by omega) (by decide) hf.out).mono ?_); rintro e wf ⟨⟨b, rfl, hb1, hb2⟩, hbf⟩; have hef := cell_up hbf he1; replace hb1 := hide hb1; replace hb2 := hide hb2; replace hbf := hide hbf; cases b)
    | (go_at_call 59; (with_reducible refine (gc_any B (s0.extract 18 s0.size) _ (hg.out.up hbf.out) (by rw [hse.out]; omega)).mono ?_); rintro e W1 ⟨⟨s, vs, us, rfl, hbo, htr, hul, hsup⟩ | ⟨ty, q, rfl, hbb⟩, hbel⟩; (have hbW := hide (hbf.out.trans (hbel.mono hbf.out.size))); (obtain ⟨ao, cap, rfl, _⟩ := strs_at hsup.get); (replace hsup := hide hsup); (replace hbo := hide hbo); (replace htr := hide htr))
    | (at_make; refine wpList_make_own _ rfl _ _ 60 rfl W1.heap.size 33 i0 .nilIface 1 under60 hi hz0 hz1 .i64 .i64 _ us.length rfl rfl rfl (by rw [hz2]; have := hbo.out.1; rw [hse.out] at this; omega) (by unfold maxLen; have := hbo.out.1; rw [hse.out] at this; omega) (Nat.le_refl _) ?_; intro w1 hown1 hgrow1))
  · go_quiet (fail)
    go_wp2
    go_ret2
    exact ⟨⟨_, .inr ⟨et, ep, rfl, .inl (by have := eq_of_beq (show ((s0.size : Int) == 18) = true by assumption); omega)⟩⟩, below_drewN hbf.out _⟩
  · have hne : s0 ≠ litColl := fun h => absurd (hb1.out h) (by simp)
    have hss := hbo.out.1
    rw [hse.out] at hss
    have hstart := hide (Built.start (It := GeoIt) (X := Geom) hown1)
    have hbg := hide ((Below.refl W1.heap.size W1).grown hgrow1 (Nat.le_refl _) (by simp))
    clear hown1 hgrow1
    replace hbel := hide hbel
    replace hne := hide hne
    go_loopw [6, 32] (fun v i wr => ∃ (k : Nat) (gs : List Geom), k ≤ us.length ∧ i = .int .i64 k ∧ gs.length = k ∧ Hid (∀ (i : Nat) (u : ByteArray) (g : Geom), us[i]? = some u → gs[i]? = some g → UnR NT u g) ∧ Hid (Built W1.heap.size 33 1 GeoIt v gs wr) ∧ Hid (Below W1.heap.size W1 wr))
      (fun _ i _ => us.length - (intOf i).toNat)
    case atStart => exact ⟨0, [], Nat.zero_le _, rfl, rfl, hide (by simp), hstart, hbg⟩
    case round =>
      obtain ⟨k, gs, hk, rfl, hgk, hgs2, hb, hbr⟩ := hrel
      obtain ⟨css, hbc⟩ := hb.out
      have hown := hide hbc.2.2.1
      replace hbc := hide hbc
      have hsz := hbr.out.size
      by_cases hlt : k < us.length
      · obtain ⟨u, hu⟩ : ∃ u, us[k]? = some u := ⟨_, List.getElem?_eq_getElem hlt⟩
        have hum : u ∈ us := List.mem_of_getElem? hu
        have hus : u.size ≤ s.size := htr.out.size (fun p hp => by have := gsp_size _ _ _ p hp; rw [List.length_nil, bs_len] at this; omega) u hum
        obtain ⟨ao', cap', he, hcell⟩ := strs_at (hsup.out.below hbr.out).get
        injection he with he1' _ he2'
        subst he1'; subst he2'
        obtain ⟨b, rfl, hc⟩ := hcell k u hu
        clear hcell
        replace hu := hide hu
        replace hum := hide hum
        replace hgk := hide hgk
        go_wp2_with (first
          | (go_at_call 10; (with_reducible refine (hun.out u wr (hg.out.up (hbW.out.trans (hbr.out.mono hbW.out.size))) (by omega)).mono ?_); rintro e w2 ⟨⟨v2, ⟨g, rfl, hg2, hr2⟩ | ⟨t, q, rfl, hbd⟩⟩, hbel2⟩; (obtain ⟨ty, pv, rfl⟩ := hg2.get.iface); (have hown2 := hide (hbc.out.below hbel2).2.2.1); (have hsz2 := hbel2.size); (replace hbel2 := hide hbel2); (replace hg2 := hide hg2))
          | (at_builtin; refine wpList_append_at _ rfl _ _ 60 rfl W1.heap.size 33 i0 .nilIface 1 16 under60 hi hz0 hz1 hz2 rfl (by decide) _ _ _ rfl (hown2.out.alloc _) ⟨w2.heap.size, 0, none⟩ 1 1 [.iface ty pv] rfl (by decide) rfl (new_at w2 33 #[.iface ty pv] _ rfl) (by simp [Value.oneCell']) (by unfold maxLen; rw [hgk.out]; omega) (by rw [hgk.out]; omega) (by simp; omega) ?_; intro v' w3 hown' hgrow hv'))
        · have hgk2 : gs.length = k := hgk.out
          obtain ⟨hB, hL⟩ := BuiltC.more (x := g) hbc.out (hbel2.out.trans ((below_alloc w2 _).mono hsz2)) (((hg2.out.imp fun w h => (⟨_, rfl, h⟩ : GeoIt [.iface ty pv] g w))).below (below_alloc w2 _)) rfl hsz hown' hgrow hv'
          refine ⟨⟨k + 1, gs ++ [g], hlt, rfl, by rw [List.length_append, List.length_singleton, hgk2], hide ?_, hide hB, hide (hbr.out.trans hL)⟩, by simp [intOf]; omega⟩
          intro i u' g' hui hgi
          by_cases hik : i < gs.length
          · rw [List.getElem?_append_left hik] at hgi
            exact hgs2.out i u' g' hui hgi
          · rw [List.getElem?_append_right (by omega)] at hgi
            have h0 : i - gs.length = 0 := by
              have := (List.getElem?_eq_some_iff.mp hgi).1; simp at this; omega
            rw [h0] at hgi
            simp at hgi
            obtain rfl : i = k := by omega
            rw [hu.out] at hui
            injection hui with hui
            rw [← hui, ← hgi]; exact hr2
        · go_ret2
          exact ⟨⟨_, .inr ⟨t, q, rfl, .inr (.inr ⟨hne.out, s, us, u, hbo.out, htr.out, hum.out, hbd⟩)⟩⟩, hbW.out.trans ((hbr.out.trans (hbel2.mono hsz)).mono hbW.out.size)⟩
      · go_wp2
        go_ret2
        exact ⟨⟨_, .inl ⟨gs, rfl, hb.out.sup.mono hbW.out.size, .inr ⟨hne.out, s, us, hbo.out, htr.out, by omega, hgs2.out⟩⟩⟩, hbW.out.trans (hbr.out.mono hbW.out.size)⟩
  · go_ret2
    exact ⟨⟨_, .inr ⟨ty, q, rfl, .inr (.inl ⟨fun h => absurd (hb1.out h) (by simp), hbb⟩)⟩⟩, hbf.out.trans (hbel.mono hbf.out.size)⟩
  · go_ret2
    exact ⟨⟨_, .inl ⟨[], rfl, isSl_nil _ _ _ _ _ _, .inl ⟨rfl, hb2.out trivial⟩⟩⟩, hbf.out.trans ((below_alloc wf _).mono hbf.out.size)⟩
end Go.Proofs.YtgmbjdoifkjdhaaGreatDoor
