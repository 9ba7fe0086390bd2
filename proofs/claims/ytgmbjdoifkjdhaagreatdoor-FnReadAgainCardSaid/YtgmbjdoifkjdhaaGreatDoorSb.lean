/- Shapes seen alike: kind, lists, parts; SameShape. -/
import Derived.Test.YtgmbjdoifkjdhaaGreatDoorSa
import Derived.StillTailTactics
namespace Go.Proofs.YtgmbjdoifkjdhaaGreatDoor
open Go.RowKit

def kindG : Geom → Nat
  | .pt _ => 1
  | .line _ => 2
  | .poly _ => 3
  | .mpt _ => 4
  | .mline _ => 5
  | .mpoly _ => 6
  | .coll _ => 7
def listsG : Geom → List (List (Nat × Nat))
  | .pt p => [[p]]
  | .line ps => [ps]
  | .poly rs => rs
  | .mpt ps => [ps]
  | .mline rs => rs
  | _ => []
def partsG : Geom → List Geom
  | .mpoly xs => xs.map .poly
  | .coll gs => gs
  | _ => []
def RowsV (v : Value) (rs : List (List (Nat × Nat))) (w : World) : Prop := ∃ ao cap, v = .slice ao rs.length cap ∧ ∀ (k : Nat) (ps : List (Nat × Nat)), rs[k]? = some ps → ∃ b u, ao = some ⟨b, 0, none⟩ ∧ w.cell? ⟨b, k, none⟩ = some u ∧ IsSl 2 PtIt u ps w
def PartsV (v : Value) (gs : List Geom) (w : World) : Prop := ∃ ao cap, v = .slice ao gs.length cap ∧ ∀ (k : Nat) (g : Geom), gs[k]? = some g →
    ∃ b kd lv pv, ao = some ⟨b, 0, none⟩ ∧ w.cell? ⟨b, k * 3, none⟩ = some kd ∧ w.cell? ⟨b, k * 3 + 1, none⟩ = some lv ∧ w.cell? ⟨b, k * 3 + 2, none⟩ = some pv ∧ ShpIs w [kd, lv, pv] g
theorem shp_pw {w : World} {kd lv pv : Value} {g : Geom} (h : ShpIs w [kd, lv, pv] g) : kd = .int .i64 (kindG g) ∧ RowsV lv (listsG g) w ∧ PartsV pv (partsG g) w := by
  have np : ∀ w, PartsV (.slice none 0 0) [] w := fun w => ⟨none, 0, rfl, fun k g hk => by simp at hk⟩
  have nr : ∀ w, RowsV (.slice none 0 0) [] w := fun w => ⟨none, 0, rfl, fun k g hk => by simp at hk⟩
  generalize he : [kd, lv, pv] = cs at h
  cases h with
  | pt h => injection he with h1 h2; injection h2 with h2 h3; injection h3 with h3 _; subst h1; subst h2; subst h3; exact ⟨rfl, rows_at h, np w⟩
  | line h => injection he with h1 h2; injection h2 with h2 h3; injection h3 with h3 _; subst h1; subst h2; subst h3; exact ⟨rfl, rows_at h, np w⟩
  | poly h => injection he with h1 h2; injection h2 with h2 h3; injection h3 with h3 _; subst h1; subst h2; subst h3; exact ⟨rfl, rows_at h, np w⟩
  | mpt h => injection he with h1 h2; injection h2 with h2 h3; injection h3 with h3 _; subst h1; subst h2; subst h3; exact ⟨rfl, rows_at h, np w⟩
  | mline h => injection he with h1 h2; injection h2 with h2 h3; injection h3 with h3 _; subst h1; subst h2; subst h3; exact ⟨rfl, rows_at h, np w⟩
  | @mpoly pv xs h =>
    injection he with h1 h2; injection h2 with h2 h3; injection h3 with h3 _; subst h1; subst h2; subst h3
    refine ⟨rfl, nr w, ?_⟩
    obtain ⟨ao, cap, h4, h5⟩ := polyshps_at h
    refine ⟨ao, cap, by show _ = Value.slice ao (xs.map Geom.poly).length cap; rw [List.length_map]; exact h4, fun k g hk => ?_⟩
    have hk' : (xs.map Geom.poly)[k]? = some g := hk
    rw [List.getElem?_map] at hk'
    obtain ⟨rs, hrs, rfl⟩ := Option.map_eq_some_iff.mp hk'
    obtain ⟨b, lv, h6, h7, h8, h9, h10⟩ := h5 k rs hrs
    exact ⟨b, _, lv, _, h6, h7, h8, h9, .poly h10⟩
  | @coll pv gs cs h hl hu =>
    injection he with h1 h2; injection h2 with h2 h3; injection h3 with h3 _; subst h1; subst h2; subst h3
    exact ⟨rfl, nr w, shps_at (.coll h hl hu)⟩
structure View (w : World) (kd lv pv : Value) (g : Geom) : Prop where
  kd : kd = .int .i64 (kindG g)
  rows : ∃ ao cap, lv = .slice ao (listsG g).length cap ∧ ∀ (k : Nat) (ps : List (Nat × Nat)), (listsG g)[k]? = some ps → ∃ b u, ao = some ⟨b, 0, none⟩ ∧ w.cell? ⟨b, k, none⟩ = some u ∧ Stay (IsSl 2 PtIt u ps) w
  parts : ∃ ao cap, pv = .slice ao (partsG g).length cap ∧ ∀ (k : Nat) (g' : Geom), (partsG g)[k]? = some g' →
    ∃ b kd lv pv, ao = some ⟨b, 0, none⟩ ∧ w.cell? ⟨b, k * 3, none⟩ = some kd ∧ w.cell? ⟨b, k * 3 + 1, none⟩ = some lv ∧ w.cell? ⟨b, k * 3 + 2, none⟩ = some pv ∧ Stay (fun w => ShpIs w [kd, lv, pv] g') w
theorem view_of {w : World} {kd lv pv : Value} {g : Geom} (hv : Stay (fun w => ShpIs w [kd, lv, pv] g) w) : View w kd lv pv g := by
  obtain ⟨h1, ⟨ao, cap, h2, h3⟩, ⟨ao', cap', h4, h5⟩⟩ := shp_pw hv.get
  refine ⟨h1, ⟨ao, cap, h2, fun k ps hk => ?_⟩, ⟨ao', cap', h4, fun k g' hk => ?_⟩⟩
  · obtain ⟨b, u, h6, h7, h8⟩ := h3 k ps hk
    refine ⟨b, u, h6, h7, fun w5 hb => ?_⟩
    obtain ⟨_, ⟨ao5, cap5, g2, g3⟩, _⟩ := shp_pw (hv w5 hb)
    rw [h2] at g2
    injection g2 with g2 _ _
    subst g2
    obtain ⟨b5, u5, g6, g7, g8⟩ := g3 k ps hk
    rw [h6] at g6
    injection g6 with g6
    injection g6 with g6 _ _
    subst g6
    rw [cell_up hb h7] at g7
    injection g7 with g7
    rw [g7]; exact g8
  · obtain ⟨b, kd2, lv2, pv2, h6, h7, h8, h9, h10⟩ := h5 k g' hk
    refine ⟨b, kd2, lv2, pv2, h6, h7, h8, h9, fun w5 hb => ?_⟩
    obtain ⟨_, _, ⟨ao5, cap5, g2, g3⟩⟩ := shp_pw (hv w5 hb)
    rw [h4] at g2
    injection g2 with g2 _ _
    subst g2
    obtain ⟨b5, kd5, lv5, pv5, g6, g7, g8, g9, g10⟩ := g3 k g' hk
    rw [h6] at g6
    injection g6 with g6
    injection g6 with g6 _ _
    subst g6
    rw [cell_up hb h7] at g7
    rw [cell_up hb h8] at g8
    rw [cell_up hb h9] at g9
    injection g7 with g7
    injection g8 with g8
    injection g9 with g9
    rw [g7, g8, g9]; exact g10
theorem Stay.drewN {R : World → Prop} {w : World} (h : Stay R w) (n : Nat) : Stay R (w.drewN n) := fun w' hb => h w' ⟨hb.os, hb.tape, hb.output, hb.size, hb.block⟩
/-- Two shapes of one geometry are the same. -/
def SSame (g : Geom) : Prop := ∀ (kd lv pv kd2 lv2 pv2 : Value) (w : World), Stay (fun w => ShpIs w [kd, lv, pv] g) w → Stay (fun w => ShpIs w [kd2, lv2, pv2] g) w →
  Calls Tryz.prog 13 #[.agg #[kd, lv, pv], .agg #[kd2, lv2, pv2]] w fun e w' => e = .returned (.bool true) ∧ Below w.heap.size w w'
set_option maxHeartbeats 4000000 in
set_option maxRecDepth 100000 in
theorem ss_step (g : Geom) (hl : (listsG g).length ≤ 1099511627776) (hll : ∀ ps ∈ listsG g, ps.length ≤ 1099511627776) (hp : (partsG g).length ≤ 1099511627776) (hparts : ∀ (i : Nat) (g' : Geom), (partsG g)[i]? = some g' → SSame g') : SSame g := by
  intro kd lv pv kd2 lv2 pv2 w hv hv2
  obtain ⟨rfl, ⟨a1, c1, rfl, hr1⟩, ⟨a2, c2, rfl, hp1⟩⟩ := view_of hv
  obtain ⟨rfl, ⟨a3, c3, rfl, hr2⟩, ⟨a4, c4, rfl, hp2⟩⟩ := view_of hv2
  clear hv hv2
  obtain ⟨K, hK⟩ : ∃ K, kindG g = K := ⟨_, rfl⟩
  obtain ⟨rs, hrs⟩ : ∃ rs, listsG g = rs := ⟨_, rfl⟩
  obtain ⟨gs, hgs⟩ : ∃ gs, partsG g = gs := ⟨_, rfl⟩
  rw [hrs] at hl hll hr1 hr2
  rw [hgs] at hp hparts hp1 hp2
  rw [hK, hrs, hgs]
  clear hK hrs hgs
  replace hr1 := hide hr1
  replace hr2 := hide hr2
  replace hp1 := hide hp1
  replace hp2 := hide hp2
  replace hll := hide hll
  replace hparts := hide hparts
  obtain ⟨w0, hw0⟩ : ∃ w0, (w.alloc (.cells #[.int .i64 K, .slice a1 rs.length c1, .slice a2 gs.length c2] 26)).alloc (.cells #[.int .i64 K, .slice a3 rs.length c3, .slice a4 gs.length c4] 26) = w0 := ⟨_, rfl⟩
  have hA : Hid (Blk w0 w.heap.size 26 #[.int .i64 K, .slice a1 rs.length c1, .slice a2 gs.length c2]) := hide (by rw [← hw0]; exact (Blk.new w 26 _).alloc _)
  have hB : Hid (Blk w0 (w.heap.size + 1) 26 #[.int .i64 K, .slice a3 rs.length c3, .slice a4 gs.length c4]) := hide (by rw [← hw0]; simpa using Blk.new (w.alloc (.cells #[.int .i64 K, .slice a1 rs.length c1, .slice a2 gs.length c2] 26)) 26 #[.int .i64 K, .slice a3 rs.length c3, .slice a4 gs.length c4])
  have hb0 : Hid (Below w.heap.size w w0) := hide (by rw [← hw0]; exact (below_alloc w _).alloc (by simp) _)
  replace hw0 := hide hw0
  go_enter Tryz.func13, Tryz.ntmps13
  go_wp2
  rw [hw0.out]
  have hw0s : w0.heap.size = w.heap.size + 1 + 1 := by rw [← hw0.out]; simp
  replace hw0s := hide hw0s
  clear hw0
  have hA0 : ∀ wr, Below w0.heap.size w0 wr → wr.cell? ⟨w.heap.size, 1, none⟩ = some (.slice a1 rs.length c1) ∧ wr.cell? ⟨w.heap.size, 2, none⟩ = some (.slice a2 gs.length c2) := fun wr hb => by
    have h := hA.out.below hb (by rw [hw0s.out]; omega)
    exact ⟨h.cell 1, h.cell 2⟩
  have hB0 : ∀ wr, Below w0.heap.size w0 wr → wr.cell? ⟨w.heap.size + 1, 1, none⟩ = some (.slice a3 rs.length c3) ∧ wr.cell? ⟨w.heap.size + 1, 2, none⟩ = some (.slice a4 gs.length c4) := fun wr hb => by
    have h := hB.out.below hb (by rw [hw0s.out]; omega)
    exact ⟨h.cell 1, h.cell 2⟩
  have hW : ∀ wr, Below w0.heap.size w0 wr → Below w.heap.size w wr := fun wr hb => hb0.out.trans (hb.mono (by rw [hw0s.out]; omega))
  replace hA0 := hide hA0
  replace hB0 := hide hB0
  replace hW := hide hW
  clear hA hB hb0
  go_loopw [5, 33] (fun _ s33 wr => ∃ k : Nat, k ≤ rs.length ∧ s33 = .int .i64 k ∧ Hid (Below w0.heap.size w0 wr)) (fun _ s33 _ => rs.length - (intOf s33).toNat)
  case atStart => exact ⟨0, Nat.zero_le _, rfl, hide (Below.refl _ _)⟩
  case round =>
    obtain ⟨k, hk, rfl, hbr⟩ := hrel
    by_cases hlt : k < rs.length
    · obtain ⟨ps, hps⟩ : ∃ p, rs[k]? = some p := ⟨_, List.getElem?_eq_getElem hlt⟩
      obtain ⟨b1, u1, rfl, h1, h2⟩ := hr1.out k ps hps
      obtain ⟨b2, u2, rfl, h3, h4⟩ := hr2.out k ps hps
      have hww := hW.out _ hbr.out
      have hl5 := hll.out ps (List.mem_of_getElem? hps)
      have h5 := cell_up hww h1
      have h6 := cell_up hww h3
      obtain ⟨g1, g2⟩ := hA0.out _ hbr.out
      obtain ⟨g3, g4⟩ := hB0.out _ hbr.out
      have K32 : Hid (∀ n, Calls Tryz.prog 32 #[u1, u2] (wr.drewN n) fun e w' => e = .returned (.bool true) ∧ ∃ m, w' = (wr.drewN n).drewN m) := hide fun n => spts_any u1 u2 ps _ ((h2.below hww).drewN n) ((h4.below hww).drewN n) hl5
      obtain ⟨q1, d1, rfl, _⟩ := pts_at h2.get
      obtain ⟨q2, d2, rfl, _⟩ := pts_at h4.get
      clear h1 h2 h3 h4 hww hl5 hps
      go_wp2
      go_quiet ((go_at_call 32; exact Calls.quiet_of (K32.out _)))
      go_wp2
      exact ⟨⟨k + 1, hlt, rfl, hide (below_drewN hbr.out _)⟩, by simp [intOf]; omega⟩
    · obtain ⟨g1, g2⟩ := hA0.out _ hbr.out
      obtain ⟨g3, g4⟩ := hB0.out _ hbr.out
      go_wp2
      clear g1 g2 g3 g4
      go_loopw [6, 52] (fun _ s52 wr => ∃ k : Nat, k ≤ gs.length ∧ s52 = .int .i64 k ∧ Hid (Below w0.heap.size w0 wr)) (fun _ s52 _ => gs.length - (intOf s52).toNat)
      case atStart => exact ⟨0, Nat.zero_le _, rfl, hbr⟩
      case round =>
        obtain ⟨k, hk, rfl, hbr⟩ := hrel
        by_cases hlt : k < gs.length
        · obtain ⟨g', hg'⟩ : ∃ p, gs[k]? = some p := ⟨_, List.getElem?_eq_getElem hlt⟩
          obtain ⟨b1, kd1, lv1, pv1, rfl, h1, h2, h3, h4⟩ := hp1.out k g' hg'
          obtain ⟨b2, kd2, lv2, pv2, rfl, j1, j2, j3, j4⟩ := hp2.out k g' hg'
          have hww := hW.out _ hbr.out
          have hIH := hparts.out k g' hg' _ _ _ _ _ _ (wr.drewN 1) ((h4.below hww).drewN 1) ((j4.below hww).drewN 1)
          replace h1 := cell_up hww h1
          replace h2 := cell_up hww h2
          replace h3 := cell_up hww h3
          replace j1 := cell_up hww j1
          replace j2 := cell_up hww j2
          replace j3 := cell_up hww j3
          obtain ⟨n0, x1, n1, y1, x2, n2, y2, rfl, rfl, rfl⟩ := h4.get.cells
          obtain ⟨n3, x4, n4, y4, x5, n5, y5, rfl, rfl, rfl⟩ := j4.get.cells
          obtain ⟨g1, g2⟩ := hA0.out _ hbr.out
          obtain ⟨g3, g4⟩ := hB0.out _ hbr.out
          replace hIH := hide hIH
          clear h4 j4 hww hg'
          go_wp2
          go_still_tail 10, (by kernel_rfl)
          change wpList _ _ _ _ _ (wr.drewN 1)
          go_wp2_with (first
            | (go_at_call 13; refine hIH.out.mono ?_; rintro e w2 ⟨rfl, hb2⟩; replace hb2 := hide (hbr.out.trans ((below_drewN (Below.refl _ _) 1).trans (hb2.mono hbr.out.size)))))
          exact ⟨⟨k + 1, hlt, rfl, hb2⟩, by simp [intOf]; omega⟩
        · go_wp2
          go_ret
          exact ⟨rfl, hW.out _ hbr.out⟩
theorem ss_any {g : Geom} (hs : Small g) : SSame g := by
  have leaf : ∀ g : Geom, partsG g = [] → (listsG g).length ≤ 1099511627776 → (∀ ps ∈ listsG g, ps.length ≤ 1099511627776) → SSame g := fun g hp hl hll =>
    ss_step g hl hll (by rw [hp]; simp) (fun i g' h => by rw [hp] at h; simp at h)
  induction hs with
  | @pt p => exact leaf _ rfl (by simp [listsG]) (by simp [listsG])
  | @line ps h => exact leaf _ rfl (by simp [listsG]) (by simpa [listsG] using h)
  | @poly rs h h2 => exact leaf _ rfl h h2
  | @mpt ps h => exact leaf _ rfl (by simp [listsG]) (by simpa [listsG] using h)
  | @mline rs h h2 => exact leaf _ rfl h h2
  | @mpoly xs h h2 =>
    refine ss_step _ (by simp [listsG]) (by simp [listsG]) (by simpa [partsG] using h) (fun i g' hg => ?_)
    have hg2 : (xs.map Geom.poly)[i]? = some g' := hg
    rw [List.getElem?_map] at hg2
    obtain ⟨rs, hrs, rfl⟩ := Option.map_eq_some_iff.mp hg2
    have h3 := h2 rs (List.mem_of_getElem? hrs)
    exact leaf _ rfl h3.1 h3.2
  | @coll gs h h2 ih => exact ss_step _ (by simp [listsG]) (by simp [listsG]) h (fun i g' hg => ih i g' hg)
end Go.Proofs.YtgmbjdoifkjdhaaGreatDoor
