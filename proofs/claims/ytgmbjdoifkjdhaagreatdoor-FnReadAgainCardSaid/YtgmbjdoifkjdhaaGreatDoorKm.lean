/- shapeOf. shapeOf, of a point, a line, a polygon, points. shapeOf, of a point, a polygon, points, lines. shapeOf, of lines. -/
import Derived.Test.YtgmbjdoifkjdhaaGreatDoorKl
section
namespace Go.Proofs.YtgmbjdoifkjdhaaGreatDoor
open Go.RowKit

theorem info54 : (Tryz.prog.info? 54).map (fun i => (i.zero, i.size, i.bytes)) = some (some (.slice none 0 0), 1, 24) := by kernel_rfl
theorem info56 : (Tryz.prog.info? 56).map (fun i => (i.zero, i.size, i.bytes)) = some (some (.slice none 0 0), 1, 24) := by kernel_rfl
theorem info58 : (Tryz.prog.info? 58).map (fun i => (i.zero, i.size, i.bytes)) = some (some (.slice none 0 0), 1, 24) := by kernel_rfl
theorem ta_47_47 (v : Value) (w : World) : (Instr.typeAssert (.iface 47 v) 33 47 true).run Tryz.prog w = .ok (.tuple #[v, .bool true]) w := by
  simp [Instr.typeAssert, run_underlying under47, go_sem, Result.andThen]
theorem ta_50_47 (v : Value) (w : World) : (Instr.typeAssert (.iface 50 v) 33 47 true).run Tryz.prog w = .ok (.tuple #[.agg #[.float .f64 0, .float .f64 0], .bool false]) w := by
  obtain ⟨i0, hi, hz0, _, _⟩ := info_parts info47
  simp [Instr.typeAssert, run_underlying under47, go_sem, Result.andThen, zeroValue, typeInfo, hi, hz0]
theorem ta_50_50 (v : Value) (w : World) : (Instr.typeAssert (.iface 50 v) 33 50 true).run Tryz.prog w = .ok (.tuple #[v, .bool true]) w := by
  simp [Instr.typeAssert, run_underlying under50, go_sem, Result.andThen]
theorem ta_52_47 (v : Value) (w : World) : (Instr.typeAssert (.iface 52 v) 33 47 true).run Tryz.prog w = .ok (.tuple #[.agg #[.float .f64 0, .float .f64 0], .bool false]) w := by
  obtain ⟨i0, hi, hz0, _, _⟩ := info_parts info47
  simp [Instr.typeAssert, run_underlying under47, go_sem, Result.andThen, zeroValue, typeInfo, hi, hz0]
theorem ta_52_50 (v : Value) (w : World) : (Instr.typeAssert (.iface 52 v) 33 50 true).run Tryz.prog w = .ok (.tuple #[.slice none 0 0, .bool false]) w := by
  obtain ⟨i0, hi, hz0, _, _⟩ := info_parts info50
  simp [Instr.typeAssert, run_underlying under50, go_sem, Result.andThen, zeroValue, typeInfo, hi, hz0]
theorem ta_52_52 (v : Value) (w : World) : (Instr.typeAssert (.iface 52 v) 33 52 true).run Tryz.prog w = .ok (.tuple #[v, .bool true]) w := by
  simp [Instr.typeAssert, run_underlying under52, go_sem, Result.andThen]
theorem ta_54_47 (v : Value) (w : World) : (Instr.typeAssert (.iface 54 v) 33 47 true).run Tryz.prog w = .ok (.tuple #[.agg #[.float .f64 0, .float .f64 0], .bool false]) w := by
  obtain ⟨i0, hi, hz0, _, _⟩ := info_parts info47
  simp [Instr.typeAssert, run_underlying under47, go_sem, Result.andThen, zeroValue, typeInfo, hi, hz0]
theorem ta_54_50 (v : Value) (w : World) : (Instr.typeAssert (.iface 54 v) 33 50 true).run Tryz.prog w = .ok (.tuple #[.slice none 0 0, .bool false]) w := by
  obtain ⟨i0, hi, hz0, _, _⟩ := info_parts info50
  simp [Instr.typeAssert, run_underlying under50, go_sem, Result.andThen, zeroValue, typeInfo, hi, hz0]
theorem ta_54_52 (v : Value) (w : World) : (Instr.typeAssert (.iface 54 v) 33 52 true).run Tryz.prog w = .ok (.tuple #[.slice none 0 0, .bool false]) w := by
  obtain ⟨i0, hi, hz0, _, _⟩ := info_parts info52
  simp [Instr.typeAssert, run_underlying under52, go_sem, Result.andThen, zeroValue, typeInfo, hi, hz0]
theorem ta_54_54 (v : Value) (w : World) : (Instr.typeAssert (.iface 54 v) 33 54 true).run Tryz.prog w = .ok (.tuple #[v, .bool true]) w := by
  simp [Instr.typeAssert, run_underlying under54, go_sem, Result.andThen]
theorem ta_56_47 (v : Value) (w : World) : (Instr.typeAssert (.iface 56 v) 33 47 true).run Tryz.prog w = .ok (.tuple #[.agg #[.float .f64 0, .float .f64 0], .bool false]) w := by
  obtain ⟨i0, hi, hz0, _, _⟩ := info_parts info47
  simp [Instr.typeAssert, run_underlying under47, go_sem, Result.andThen, zeroValue, typeInfo, hi, hz0]
theorem ta_56_50 (v : Value) (w : World) : (Instr.typeAssert (.iface 56 v) 33 50 true).run Tryz.prog w = .ok (.tuple #[.slice none 0 0, .bool false]) w := by
  obtain ⟨i0, hi, hz0, _, _⟩ := info_parts info50
  simp [Instr.typeAssert, run_underlying under50, go_sem, Result.andThen, zeroValue, typeInfo, hi, hz0]
theorem ta_56_52 (v : Value) (w : World) : (Instr.typeAssert (.iface 56 v) 33 52 true).run Tryz.prog w = .ok (.tuple #[.slice none 0 0, .bool false]) w := by
  obtain ⟨i0, hi, hz0, _, _⟩ := info_parts info52
  simp [Instr.typeAssert, run_underlying under52, go_sem, Result.andThen, zeroValue, typeInfo, hi, hz0]
theorem ta_56_54 (v : Value) (w : World) : (Instr.typeAssert (.iface 56 v) 33 54 true).run Tryz.prog w = .ok (.tuple #[.slice none 0 0, .bool false]) w := by
  obtain ⟨i0, hi, hz0, _, _⟩ := info_parts info54
  simp [Instr.typeAssert, run_underlying under54, go_sem, Result.andThen, zeroValue, typeInfo, hi, hz0]
theorem ta_56_56 (v : Value) (w : World) : (Instr.typeAssert (.iface 56 v) 33 56 true).run Tryz.prog w = .ok (.tuple #[v, .bool true]) w := by
  simp [Instr.typeAssert, run_underlying under56, go_sem, Result.andThen]
theorem ta_58_47 (v : Value) (w : World) : (Instr.typeAssert (.iface 58 v) 33 47 true).run Tryz.prog w = .ok (.tuple #[.agg #[.float .f64 0, .float .f64 0], .bool false]) w := by
  obtain ⟨i0, hi, hz0, _, _⟩ := info_parts info47
  simp [Instr.typeAssert, run_underlying under47, go_sem, Result.andThen, zeroValue, typeInfo, hi, hz0]
theorem ta_58_50 (v : Value) (w : World) : (Instr.typeAssert (.iface 58 v) 33 50 true).run Tryz.prog w = .ok (.tuple #[.slice none 0 0, .bool false]) w := by
  obtain ⟨i0, hi, hz0, _, _⟩ := info_parts info50
  simp [Instr.typeAssert, run_underlying under50, go_sem, Result.andThen, zeroValue, typeInfo, hi, hz0]
theorem ta_58_52 (v : Value) (w : World) : (Instr.typeAssert (.iface 58 v) 33 52 true).run Tryz.prog w = .ok (.tuple #[.slice none 0 0, .bool false]) w := by
  obtain ⟨i0, hi, hz0, _, _⟩ := info_parts info52
  simp [Instr.typeAssert, run_underlying under52, go_sem, Result.andThen, zeroValue, typeInfo, hi, hz0]
theorem ta_58_54 (v : Value) (w : World) : (Instr.typeAssert (.iface 58 v) 33 54 true).run Tryz.prog w = .ok (.tuple #[.slice none 0 0, .bool false]) w := by
  obtain ⟨i0, hi, hz0, _, _⟩ := info_parts info54
  simp [Instr.typeAssert, run_underlying under54, go_sem, Result.andThen, zeroValue, typeInfo, hi, hz0]
theorem ta_58_56 (v : Value) (w : World) : (Instr.typeAssert (.iface 58 v) 33 56 true).run Tryz.prog w = .ok (.tuple #[.slice none 0 0, .bool false]) w := by
  obtain ⟨i0, hi, hz0, _, _⟩ := info_parts info56
  simp [Instr.typeAssert, run_underlying under56, go_sem, Result.andThen, zeroValue, typeInfo, hi, hz0]
theorem ta_58_58 (v : Value) (w : World) : (Instr.typeAssert (.iface 58 v) 33 58 true).run Tryz.prog w = .ok (.tuple #[v, .bool true]) w := by
  simp [Instr.typeAssert, run_underlying under58, go_sem, Result.andThen]
theorem ta_60_47 (v : Value) (w : World) : (Instr.typeAssert (.iface 60 v) 33 47 true).run Tryz.prog w = .ok (.tuple #[.agg #[.float .f64 0, .float .f64 0], .bool false]) w := by
  obtain ⟨i0, hi, hz0, _, _⟩ := info_parts info47
  simp [Instr.typeAssert, run_underlying under47, go_sem, Result.andThen, zeroValue, typeInfo, hi, hz0]
theorem ta_60_50 (v : Value) (w : World) : (Instr.typeAssert (.iface 60 v) 33 50 true).run Tryz.prog w = .ok (.tuple #[.slice none 0 0, .bool false]) w := by
  obtain ⟨i0, hi, hz0, _, _⟩ := info_parts info50
  simp [Instr.typeAssert, run_underlying under50, go_sem, Result.andThen, zeroValue, typeInfo, hi, hz0]
theorem ta_60_52 (v : Value) (w : World) : (Instr.typeAssert (.iface 60 v) 33 52 true).run Tryz.prog w = .ok (.tuple #[.slice none 0 0, .bool false]) w := by
  obtain ⟨i0, hi, hz0, _, _⟩ := info_parts info52
  simp [Instr.typeAssert, run_underlying under52, go_sem, Result.andThen, zeroValue, typeInfo, hi, hz0]
theorem ta_60_54 (v : Value) (w : World) : (Instr.typeAssert (.iface 60 v) 33 54 true).run Tryz.prog w = .ok (.tuple #[.slice none 0 0, .bool false]) w := by
  obtain ⟨i0, hi, hz0, _, _⟩ := info_parts info54
  simp [Instr.typeAssert, run_underlying under54, go_sem, Result.andThen, zeroValue, typeInfo, hi, hz0]
theorem ta_60_56 (v : Value) (w : World) : (Instr.typeAssert (.iface 60 v) 33 56 true).run Tryz.prog w = .ok (.tuple #[.slice none 0 0, .bool false]) w := by
  obtain ⟨i0, hi, hz0, _, _⟩ := info_parts info56
  simp [Instr.typeAssert, run_underlying under56, go_sem, Result.andThen, zeroValue, typeInfo, hi, hz0]
theorem ta_60_58 (v : Value) (w : World) : (Instr.typeAssert (.iface 60 v) 33 58 true).run Tryz.prog w = .ok (.tuple #[.slice none 0 0, .bool false]) w := by
  obtain ⟨i0, hi, hz0, _, _⟩ := info_parts info58
  simp [Instr.typeAssert, run_underlying under58, go_sem, Result.andThen, zeroValue, typeInfo, hi, hz0]
theorem ta_60_60 (v : Value) (w : World) : (Instr.typeAssert (.iface 60 v) 33 60 true).run Tryz.prog w = .ok (.tuple #[v, .bool true]) w := by
  simp [Instr.typeAssert, run_underlying under60, go_sem, Result.andThen]

def ShpOut (g : Geom) (w : World) (e : Ending) (w' : World) : Prop := ∃ kd lv pv, e = .returned (.agg #[kd, lv, pv]) ∧ Sup w.heap.size (fun w => ShpIs w [kd, lv, pv] g) w' ∧ Below w.heap.size w w'

end Go.Proofs.YtgmbjdoifkjdhaaGreatDoor
end
section
namespace Go.Proofs.YtgmbjdoifkjdhaaGreatDoor
open Go.RowKit

theorem Sup.setOff {lo : Nat} {R : World → Prop} {w : World} (h : Sup lo R w) (p : Addr) (hp : p.block < lo) (u : Value) : Sup lo R (w.setCell p u) := by
  obtain ⟨F, h1, h2⟩ := h
  refine ⟨F, fun g hg => ⟨(h1 g hg).1, by rw [size_set]; exact (h1 g hg).2⟩, fun w' hw => h2 w' fun g hg => ?_⟩
  exact (hw g hg).trans (Below.heap_setCell w p u g (by have := (h1 g hg).1; omega))
theorem sl_one {X : Type} {It : List Value → X → World → Prop} {x : X} {u : Value} {lo : Nat} {w : World} (t : TypeId) (h : Sup lo (It [u] x) w) (hlo : lo ≤ w.heap.size) :
    Sup lo (IsSl 1 It (.slice (some ⟨w.heap.size, 0, none⟩) 1 1) [x]) (w.alloc (.cells #[u] t)) := by
  have h2 := (sup_new w t #[u]).mono hlo
  refine ((h.below (below_alloc w _)).and h2).imp fun w' hw => ?_
  refine ⟨_, _, [[u]], rfl, rfl, by simp, ?_, ?_⟩
  · intro j v hj
    cases j with
    | zero => simp at hj; subst hj; exact ⟨_, rfl, by rw [cell_of_row w' _ 0 _ _ _ hw.2]; rfl⟩
    | succ j => simp at hj
  · intro i c y hc hy
    cases i with
    | zero => simp at hc hy; subst hc; subst hy; exact hw.1
    | succ i => simp at hc
theorem shp_tail {w w2 : World} {u : Value} {ps : List (Nat × Nat)} (v0 v1 v2 : Value) (h : Sup (w.heap.size + 1) (IsSl 2 PtIt u ps) w2) (hs : w.heap.size + 1 ≤ w2.heap.size) :
    Sup w.heap.size (IsSl 1 RowIt (.slice (some ⟨w2.heap.size, 0, none⟩) 1 1) [ps]) ((((w2.setCell ⟨w.heap.size, 0, none⟩ v0).setCell ⟨w.heap.size, 1, none⟩ v1).setCell ⟨w.heap.size, 2, none⟩ v2).alloc (.cells #[u] 39)) := by
  have h0 : Sup (w.heap.size + 1) (RowIt [u] ps) w2 := h.imp fun w h => ⟨_, rfl, h⟩
  have h1 := ((h0.setOff ⟨w.heap.size, 0, none⟩ (Nat.lt_succ_self _) v0).setOff ⟨w.heap.size, 1, none⟩ (Nat.lt_succ_self _) v1).setOff ⟨w.heap.size, 2, none⟩ (Nat.lt_succ_self _) v2
  have h2 := sl_one 39 h1 (by simpa [size_set] using hs)
  simpa [size_set] using h2.mono (Nat.le_succ _)

set_option maxHeartbeats 1000000 in
set_option maxRecDepth 100000 in
theorem shp_line (v : Value) (ps : List (Nat × Nat)) (w : World) (hv : Stay (IsSl 2 PtIt v ps) w) (hl : ps.length ≤ 1099511627776) :
    Calls Tryz.prog 11 #[.iface 50 v] w (ShpOut (.line ps) w) := by
  obtain ⟨ao, cap, rfl, _⟩ := pts_at hv.get
  have h1 := ta_50_47
  have h2 := ta_50_50
  replace hv := hide hv
  go_enter Tryz.func11, Tryz.ntmps11
  go_wp2_with (first
    | (go_at_call 30; refine (listOf_any _ ps _ (hv.out.below (below_alloc w _)) hl).mono ?_; rintro e w2 ⟨v2, rfl, hsp, hbl⟩; (obtain ⟨a2, c2, rfl, _⟩ := pts_at hsp.get); (have hB := (Blk.new w 26 #[.int .i64 0, .slice none 0 0, .slice none 0 0]).below hbl (by simp)); (have hk0 := hB.cell 0); (have hk1 := hB.cell 1); (have hk2 := hB.cell 2); (have hg0 := hB.frozen 0); (have hg1 := hB.frozen 1); (have hg2 := hB.frozen 2); (simp only [List.getElem?_toArray, List.getElem?_cons_zero, List.getElem?_cons_succ] at hk0 hk1 hk2); (have hlt := hB.lt); (replace hB := hide hB); (replace hbl := hide hbl); (replace hsp := hide hsp)))
  (try simp only [Exit.inBlock, Exit.then])
  refine bodyPost_ret (results_26 rfl _ _ w.heap.size #[.int .i64 2, .slice (some ⟨w2.heap.size, 0, none⟩) 1 1, .slice none 0 0] rfl ((((hB.out.set 0 _).set 1 _).set 2 _).alloc _) rfl) rfl ?_
  have hs2 : w.heap.size + 1 ≤ w2.heap.size := by have := hbl.out.size; simpa using this
  refine ⟨_, _, _, rfl, ?_, ?_⟩
  · exact (shp_tail _ _ _ (by simpa using hsp.out) hs2).imp fun w h => .line h
  · exact ((((((below_alloc w _).trans (hbl.out.mono (by simp))).setCell (Nat.le_refl _) _).setCell (Nat.le_refl _) _).setCell (Nat.le_refl _) _).alloc (by simp; omega) _)
end Go.Proofs.YtgmbjdoifkjdhaaGreatDoor
end
section
namespace Go.Proofs.YtgmbjdoifkjdhaaGreatDoor
open Go.RowKit

theorem own_far {X : Type} {base e size : Nat} {It : List Value → X → World → Prop} {v : Value} {xs : List X} {css : List (List Value)} {w : World} (h : BuiltC base e size It v xs css w) {Bw : Nat} (hb : Bw < base) : some Bw ≠ v.ownBlock := by
  intro he
  have := (h.2.2.1.lt _ he.symm).1
  omega

set_option maxHeartbeats 1000000 in
set_option maxRecDepth 100000 in
theorem shp_mpt (v : Value) (ps : List (Nat × Nat)) (w : World) (hv : Stay (IsSl 2 PtIt v ps) w) (hl : ps.length ≤ 1099511627776) :
    Calls Tryz.prog 11 #[.iface 54 v] w (ShpOut (.mpt ps) w) := by
  obtain ⟨ao, cap, rfl, _⟩ := pts_at hv.get
  have h1 := ta_54_47
  have h2 := ta_54_50
  have h3 := ta_54_52
  have h4 := ta_54_54
  replace hv := hide hv
  go_enter Tryz.func11, Tryz.ntmps11
  go_wp2_with (first
    | (go_at_call 30; refine (listOf_any _ ps _ (hv.out.below (below_alloc w _)) hl).mono ?_; rintro e w2 ⟨v2, rfl, hsp, hbl⟩; (obtain ⟨a2, c2, rfl, _⟩ := pts_at hsp.get); (have hB := (Blk.new w 26 #[.int .i64 0, .slice none 0 0, .slice none 0 0]).below hbl (by simp)); (have hk0 := hB.cell 0); (have hk1 := hB.cell 1); (have hk2 := hB.cell 2); (have hg0 := hB.frozen 0); (have hg1 := hB.frozen 1); (have hg2 := hB.frozen 2); (simp only [List.getElem?_toArray, List.getElem?_cons_zero, List.getElem?_cons_succ] at hk0 hk1 hk2); (have hlt := hB.lt); (replace hB := hide hB); (replace hbl := hide hbl); (replace hsp := hide hsp)))
  (try simp only [Exit.inBlock, Exit.then])
  refine bodyPost_ret (results_26 rfl _ _ w.heap.size #[.int .i64 4, .slice (some ⟨w2.heap.size, 0, none⟩) 1 1, .slice none 0 0] rfl ((((hB.out.set 0 _).set 1 _).set 2 _).alloc _) rfl) rfl ?_
  have hs2 : w.heap.size + 1 ≤ w2.heap.size := by have := hbl.out.size; simpa using this
  refine ⟨_, _, _, rfl, ?_, ?_⟩
  · exact (shp_tail _ _ _ (by simpa using hsp.out) hs2).imp fun w h => .mpt h
  · exact ((((((below_alloc w _).trans (hbl.out.mono (by simp))).setCell (Nat.le_refl _) _).setCell (Nat.le_refl _) _).setCell (Nat.le_refl _) _).alloc (by simp; omega) _)

set_option maxHeartbeats 1000000 in
set_option maxRecDepth 100000 in
theorem shp_poly (v : Value) (rs : List (List (Nat × Nat))) (w : World) (hv : Stay (IsSl 1 RowIt v rs) w) (hl : rs.length ≤ 1099511627776) (hl2 : ∀ ps ∈ rs, ps.length ≤ 1099511627776) :
    Calls Tryz.prog 11 #[.iface 52 v] w (ShpOut (.poly rs) w) := by
  obtain ⟨ao, cap, rfl, _⟩ := rows_at hv.get
  have h1 := ta_52_47
  have h2 := ta_52_50
  have h3 := ta_52_52
  replace hv := hide hv
  replace hl2 := hide hl2
  go_enter Tryz.func11, Tryz.ntmps11
  go_wp2_with (first
    | (go_at_call 31; refine (polyShape_any _ rs _ (hv.out.below (below_alloc w _)) hl hl2.out).mono ?_; rintro e w2 ⟨lv, rfl, hsp, hbl⟩; (obtain ⟨a2, c2, rfl, _⟩ := rows_at hsp.get); (have hB := (Blk.new w 26 #[.int .i64 0, .slice none 0 0, .slice none 0 0]).below hbl (by simp)); (have hk0 := hB.cell 0); (have hk1 := hB.cell 1); (have hk2 := hB.cell 2); (have hg0 := hB.frozen 0); (have hg1 := hB.frozen 1); (have hg2 := hB.frozen 2); (simp only [List.getElem?_toArray, List.getElem?_cons_zero, List.getElem?_cons_succ] at hk0 hk1 hk2); (have hlt := hB.lt); (replace hB := hide hB); (replace hbl := hide hbl); (replace hsp := hide hsp)))
  (try simp only [Exit.inBlock, Exit.then])
  refine bodyPost_ret (results_26 rfl _ _ w.heap.size #[.int .i64 3, .slice a2 rs.length c2, .slice none 0 0] rfl (((hB.out.set 0 _).set 1 _).set 2 _) rfl) rfl ?_
  refine ⟨_, _, _, rfl, ?_, ?_⟩
  · have h0 : Sup (w.heap.size + 1) (IsSl 1 RowIt (.slice a2 rs.length c2) rs) w2 := by simpa using hsp.out
    exact ((((h0.setOff ⟨w.heap.size, 0, none⟩ (Nat.lt_succ_self _) _).setOff ⟨w.heap.size, 1, none⟩ (Nat.lt_succ_self _) _).setOff ⟨w.heap.size, 2, none⟩ (Nat.lt_succ_self _) _).imp fun w h => .poly h).mono (Nat.le_succ _)
  · exact (((((below_alloc w _).trans (hbl.out.mono (by simp))).setCell (Nat.le_refl _) _).setCell (Nat.le_refl _) _).setCell (Nat.le_refl _) _)

theorem pt_one (w : World) (x y : Nat) (t : TypeId) : Sup w.heap.size (IsSl 2 PtIt (.slice (some ⟨w.heap.size, 0, none⟩) 1 1) [(x, y)]) (w.alloc (.cells #[.float .f64 x, .float .f64 y] t)) := by
  refine (sup_new w t #[.float .f64 x, .float .f64 y]).imp fun w' hw => ?_
  refine ⟨_, _, [[.float .f64 x, .float .f64 y]], rfl, rfl, by simp, ?_, ?_⟩
  · intro j v hj
    rcases j with _ | _ | j
    · simp at hj; subst hj; exact ⟨_, rfl, by rw [cell_of_row w' _ 0 _ _ _ hw]; rfl⟩
    · simp at hj; subst hj; exact ⟨_, rfl, by rw [cell_of_row w' _ 1 _ _ _ hw]; rfl⟩
    · simp at hj
  · intro i c z hc hz
    cases i with
    | zero => simp at hc hz; subst hc; subst hz; rfl
    | succ i => simp at hc
set_option maxHeartbeats 1000000 in
set_option maxRecDepth 100000 in
theorem shp_pt (p : Nat × Nat) (w : World) : Calls Tryz.prog 11 #[.iface 47 (.agg #[.float .f64 p.1, .float .f64 p.2])] w (ShpOut (.pt p) w) := by
  have h1 := ta_47_47
  have hsf := store_float
  obtain ⟨x, y⟩ := p
  go_enter Tryz.func11, Tryz.ntmps11
  go_wp2
  have hB := (((Blk.new w 26 #[.int .i64 1, .slice (some ⟨w.heap.size + 1 + 1 + 1, 0, none⟩) 1 1, .slice none 0 0]).alloc (.cells #[.float .f64 x, .float .f64 y] 47)).alloc (.cells #[.float .f64 x, .float .f64 y] 38)).alloc (.cells #[.slice (some ⟨w.heap.size + 1 + 1, 0, none⟩) 1 1] 39)
  refine bodyPost_ret (results_26 rfl _ _ w.heap.size _ rfl hB rfl) rfl ?_
  refine ⟨_, _, _, rfl, ?_, (((below_alloc w _).alloc (by simp) _).alloc (by simp; omega) _).alloc (by simp; omega) _⟩
  have h2 := pt_one ((w.alloc (.cells #[.int .i64 1, .slice (some ⟨w.heap.size + 1 + 1 + 1, 0, none⟩) 1 1, .slice none 0 0] 26)).alloc (.cells #[.float .f64 x, .float .f64 y] 47)) x y 38
  have h3 : Sup _ (RowIt [.slice (some ⟨w.heap.size + 1 + 1, 0, none⟩) 1 1] [(x, y)]) _ := h2.imp fun w' hw => ⟨_, rfl, by simpa using hw⟩
  have h4 := sl_one 39 h3 (by simp)
  exact (h4.imp fun w' hw => .pt (by simpa using hw)).mono (by simp; omega)
end Go.Proofs.YtgmbjdoifkjdhaaGreatDoor
end
section
namespace Go.Proofs.YtgmbjdoifkjdhaaGreatDoor
open Go.RowKit

set_option maxHeartbeats 1000000 in
set_option maxRecDepth 100000 in
theorem shp_mline (v : Value) (rs : List (List (Nat × Nat))) (w : World) (hv : Stay (IsSl 1 RowIt v rs) w) (hl : rs.length ≤ 1099511627776) (hl2 : ∀ ps ∈ rs, ps.length ≤ 1099511627776) :
    Calls Tryz.prog 11 #[.iface 56 v] w (ShpOut (.mline rs) w) := by
  obtain ⟨i0, hi, hz0, hz1, hz2⟩ := info_parts info39
  obtain ⟨ao, cap, rfl, _⟩ := rows_at hv.get
  have t1 := ta_56_47
  have t2 := ta_56_50
  have t3 := ta_56_52
  have t4 := ta_56_54
  have t5 := ta_56_56
  replace hv := hide hv
  replace hl2 := hide hl2
  go_enter Tryz.func11, Tryz.ntmps11
  go_wp2
  go_loopw [56] (fun i wr => ∃ (k : Nat) (lv : Value) (done : List (List (Nat × Nat))), k ≤ rs.length ∧ i = .int .i64 k ∧ done.length = k ∧ Hid (done = rs.take k) ∧ Hid (Built (w.heap.size + 2) 39 1 RowIt lv done wr) ∧ Hid (Below w.heap.size w wr) ∧
      Hid (Blk wr w.heap.size 26 #[.int .i64 0, .slice none 0 0, .slice none 0 0]) ∧ Hid (Blk wr (w.heap.size + 1) 26 #[.int .i64 5, lv, .slice none 0 0]))
    (fun i _ => rs.length - (intOf i).toNat)
  case atStart =>
    refine ⟨0, .slice none 0 0, [], Nat.zero_le _, rfl, rfl, hide (by simp), hide (Built.start (World.ownsRow_nil _ _ _ _)), hide ((below_alloc w _).trans ((below_alloc _ _).mono (by simp))), hide ((Blk.new w 26 _).alloc _), hide ?_⟩
    have := Blk.new (w.alloc (.cells #[.int .i64 0, .slice none 0 0, .slice none 0 0] 26)) 26 #[.int .i64 5, .slice none 0 0, .slice none 0 0]
    simpa using this
  case round =>
    obtain ⟨k, lv, done, hk, rfl, hdk, hd, hb, hbel, hB0, hB1⟩ := hrel
    obtain ⟨css, hbc⟩ := hb.out
    have hown := hide hbc.2.2.1
    replace hbc := hide hbc
    have hsz := hbel.out.size
    replace hdk := hide hdk
    have hlt1 := hB1.out.lt
    have hc0 := hB1.out.cell 0
    have hc1 := hB1.out.cell 1
    have hc2 := hB1.out.cell 2
    have hf1 := hB1.out.frozen 1
    simp only [List.getElem?_toArray, List.getElem?_cons_zero, List.getElem?_cons_succ] at hc0 hc1 hc2
    by_cases hlt : k < rs.length
    · obtain ⟨ps, hps⟩ : ∃ p, rs[k]? = some p := ⟨_, List.getElem?_eq_getElem hlt⟩
      have hpl := hl2.out ps (List.mem_of_getElem? hps)
      obtain ⟨ao', cap', he, hcell⟩ := rows_at (hv.out _ hbel.out)
      injection he with he1 _ he2
      subst he1; subst he2
      obtain ⟨b, u, rfl, hcu, hup⟩ := hcell k ps hps
      clear hcell
      have hup2 : Stay (IsSl 2 PtIt u ps) wr := by
        intro w5 h5
        obtain ⟨ao5, cap5, he5, hcell5⟩ := rows_at (hv.out _ (hbel.out.trans (h5.mono hsz)))
        injection he5 with h6 _ _
        subst h6
        obtain ⟨b5, u5, h7, h8, h9⟩ := hcell5 k ps hps
        injection h7 with h7
        injection h7 with h7
        subst h7
        have h10 := cell_up h5 hcu
        rw [h8] at h10
        injection h10 with h10
        rw [← h10]; exact h9
      replace hup2 := hide hup2
      replace hps := hide hps
      clear hup
      go_wp2
      go_region_law (first
        | (refine step_append_lies _ rfl _ _ 23 rfl (w.heap.size + 2) 39 i0 (.slice none 0 0) 1 24 under23 hi hz0 hz1 hz2 rfl (by decide) lv done.length css.flatten rfl (hown2.out.alloc _) ⟨w2.heap.size, 0, none⟩ 1 1 [.slice a2 ps.length c2] rfl rfl (new_at w2 39 #[.slice a2 ps.length c2] _ rfl) (by simp [Value.oneCell']) (by decide) (by unfold maxLen; rw [hdk.out]; omega) (by rw [hdk.out]; omega) (by simp; omega) _ rfl ?_; intro g cp w3 hown' hgrow hv' hlt3; (have hB13 := (hB12.alloc _).grown hgrow (own_ne hbc.out hB1.out (by decide))); (have hd3 := hB13.cell 1); (have hf3 := hB13.frozen 1); (simp only [List.getElem?_toArray, List.getElem?_cons_zero, List.getElem?_cons_succ] at hd3))
        | (go_simp; go_at_call 30; refine (listOf_any u ps _ (hup2.out.below (below_drewN (Below.refl _ _) _)) hpl).mono ?_; rintro e w2 ⟨v2, rfl, hsp, hbl⟩; (obtain ⟨a2, c2, rfl, _⟩ := pts_at hsp.get); (have hbl2 := hide ((below_drewN (Below.refl wr.heap.size wr) 1).trans hbl)); (have hB12 := hB1.out.below hbl2.out hlt1); (have hd1 := hB12.cell 1); (have hd2 := hB12.frozen 1); (have hlt2 := hB12.lt); (simp only [List.getElem?_toArray, List.getElem?_cons_zero, List.getElem?_cons_succ] at hd1); (have hown2 := hide (hbc.out.below hbl2.out).2.2.1); (have hsz2 := hbl2.out.size); (replace hsp := hide hsp)))
      all_goals (
        go_wp2
        have hdk2 : done.length = k := hdk.out
        obtain ⟨hB, hL⟩ := BuiltC.more (x := ps) hbc.out (hbl2.out.trans ((below_alloc w2 _).mono hsz2)) (((hsp.out.imp fun w h => (⟨_, rfl, h⟩ : RowIt [_] ps w))).below (below_alloc w2 _)) rfl (by omega) hown' hgrow (hv'.imp (fun h => h.symm) (fun h => by rw [h]; rfl))
        refine ⟨⟨k + 1, _, done ++ [ps], hlt, rfl, by rw [List.length_append, List.length_singleton, hdk2], hide ?_, hide (hB.setOff (Bw := w.heap.size + 1) (i := 1) (by omega) _), hide ((hbel.out.trans (hL.mono (by omega))).setCell (Nat.le_succ _) _), hide ((((hB0.out.below hbl2.out hB0.out.lt).alloc _).grown hgrow (own_ne hbc.out hB0.out (by decide))).far (by simp) _), hide (hB13.set 1 _)⟩, by simp [intOf]; omega⟩
        rw [hd.out, List.take_add_one, hps.out]; rfl)
    · have hk0 := hB0.out.cell 0
      have hk1 := hB0.out.cell 1
      have hk2 := hB0.out.cell 2
      have hg0 := hB0.out.frozen 0
      have hg1 := hB0.out.frozen 1
      have hg2 := hB0.out.frozen 2
      simp only [List.getElem?_toArray, List.getElem?_cons_zero, List.getElem?_cons_succ] at hk0 hk1 hk2
      obtain ⟨a2, c2, rfl⟩ := own_shape hown.out
      have hdk2 : done = rs := by rw [hd.out]; exact List.take_of_length_le (by omega)
      replace hdk2 := hide hdk2
      go_wp2
      (try simp only [Exit.inBlock, Exit.then])
      refine bodyPost_ret (results_26 rfl _ _ w.heap.size #[.int .i64 5, .slice a2 done.length c2, .slice none 0 0] rfl (((hB0.out.set 0 _).set 1 _).set 2 _) rfl) rfl ?_
      refine ⟨_, _, _, rfl, ?_, ((hbel.out.setCell (Nat.le_refl _) _).setCell (Nat.le_refl _) _).setCell (Nat.le_refl _) _⟩
      have h1 := (((hb.out.setOff (Bw := w.heap.size) (i := 0) (by omega) (.int .i64 5)).setOff (Bw := w.heap.size) (i := 1) (by omega) (.slice a2 done.length c2)).setOff (Bw := w.heap.size) (i := 2) (by omega) (.slice none 0 0)).sup
      rw [← hdk2.out]
      exact (h1.imp fun w h => .mline h).mono (by omega)
end Go.Proofs.YtgmbjdoifkjdhaaGreatDoor
end
