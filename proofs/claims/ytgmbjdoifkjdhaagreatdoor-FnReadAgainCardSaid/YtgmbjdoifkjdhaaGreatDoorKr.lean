/- wkt: a line, points. -/
import Derived.Test.YtgmbjdoifkjdhaaGreatDoorKq
import Derived.Lib.SlBytesConst
namespace Go.Proofs.YtgmbjdoifkjdhaaGreatDoor
open Go.RowKit

/-- A literal's bytes, written. -/
theorem wlit_any (B b : Nat) (l l' : List UInt8) (n c : Nat) (C : Array Value) (fz : Nat × Nat) (w : World) (h : Buf B b l w) (hC : C = (Lib.byteCells l').toArray) (hn : l'.length = n) (hl : l.length + n ≤ 140737488355328) :
    Calls Tryz.prog 35 #[.pointer (some ⟨b, 0, none⟩), .slice (some ⟨w.heap.size, 0, none⟩) n c] (w.alloc (.cells C 5 fz)) fun e w' => e = .returned (.tuple #[.int .i64 n, .nilIface]) ∧ Buf B b (l ++ l') w' ∧ Below B w w' := by
  have hb := h.ext (below_alloc w (.cells C 5 fz))
  have hlt := h.lt
  refine (Tryz.Buffer_Write_any B b (Lib.byteCells l) (Lib.byteCells l') ⟨w.heap.size, 0, none⟩ n c _ hb.1 hb.2 (byteCells_one l) (by rw [Lib.byteCells_length]; exact hn) (by show w.heap.size ≠ b; omega) ?_ (byteCells_one l') (by rw [Lib.byteCells_length]; exact hl)).mono ?_
  · intro j v hj
    have hadd : (⟨w.heap.size, 0, none⟩ : Addr).add j = ⟨w.heap.size, j, none⟩ := by unfold Addr.add; split <;> simp_all
    rw [hadd, cell_of_row _ w.heap.size j C 5 fz (heap_alloc_new w _), hC]
    simpa using hj
  · rintro e w' ⟨rfl, h1, h2, _⟩
    refine ⟨rfl, ⟨?_, Nat.le_trans hb.2 h2.size⟩, ((below_alloc w _).mono h.2).trans h2⟩
    rw [← byteCells_cat]; exact h1
theorem PtText.len {NT : List UInt8 → Nat → Prop} {l : List UInt8} {p : Nat × Nat} (h : PtText NT l p) : l ≠ [] := by
  obtain ⟨a, b, rfl, _⟩ := h
  simp
set_option maxHeartbeats 1000000 in
set_option maxRecDepth 100000 in
theorem wkt_line0 {NT : List UInt8 → Nat → Prop} (B b : Nat) (l : List UInt8) (ao : Option Addr) (cap : Nat) (w : World) (hB : Buf B b l w) (hl : l.length + 64 ≤ 140737488355328) :
    Calls Tryz.prog 18 #[.pointer (some ⟨b, 0, none⟩), .iface 50 (.slice ao 0 cap)] w (WkOut NT B b l (.line []) 1 w) := by
  have t1 := ta_50_47
  have t2 := ta_50_54
  have t3 := ta_50_50
  replace hB := hide hB
  have kc := fun (w : World) (C : Array Value) (n c : Nat) => Lib.run_convert_bytes_const (P := Tryz.prog) w 66 5 C n c under66 under5
  go_enter Tryz.func18, Tryz.ntmps18
  go_wp2_with (first
    | (go_at_call 35; refine (wlit_any B b l (kLine ++ emp) 16 _ _ _ w hB.out rfl rfl (by omega)).mono ?_; rintro e w2 ⟨rfl, hB2, hb2⟩))
  go_end0
  exact ⟨rfl, ⟨_, .line0, hB2, by decide⟩, hb2⟩
set_option maxHeartbeats 1000000 in
set_option maxRecDepth 100000 in
theorem wkt_line1 {NT : List UInt8 → Nat → Prop} (N : NumOut NT) (G B b : Nat) (l : List UInt8) (v : Value) (ps : List (Nat × Nat)) (w : World) (hG : Glob G w) (hGB : G ≤ B) (hB : Buf B b l w) (hv : StayB B (IsSl 2 PtIt v ps) w)
    (hgood : ∀ p ∈ ps, GoodPt p) (hne : ps ≠ []) (hl : l.length + 64 * (ps.length + 1) ≤ 140737488355328) :
    Calls Tryz.prog 18 #[.pointer (some ⟨b, 0, none⟩), .iface 50 v] w (WkOut NT B b l (.line ps) (ps.length + 1) w) := by
  have t1 := ta_50_47
  have t2 := ta_50_54
  have t3 := ta_50_50
  obtain ⟨ao, cap, rfl, _⟩ := pts_at hv.get
  have hn0 : 0 < ps.length := List.length_pos_iff.mpr hne
  replace hB := hide hB
  replace hG := hide hG
  replace hgood := hide hgood
  replace hv := hide hv
  have kc := fun (w : World) (C : Array Value) (n c : Nat) => Lib.run_convert_bytes_const (P := Tryz.prog) w 66 5 C n c under66 under5
  go_enter Tryz.func18, Tryz.ntmps18
  go_wp2_with (first
    | (go_at_call 35; refine (wlit_any B b l kLine 10 _ _ _ w hB.out rfl rfl (by omega)).mono ?_; rintro e w2 ⟨rfl, hB2, hb2⟩; (have hb3 := hide hb2); (replace hB2 := hide hB2))
    | (go_at_call 37; refine (wls_any N G B b (l ++ kLine) _ ps w2 (hG.out.below (hb3.out.mono hGB)) hGB hB2.out ((hv.out.below hb3.out).stay hB2.out.2) (hv.out.below hb3.out) hgood.out (by simp only [List.length_append, kLine, List.length_cons, List.length_nil]; omega)).mono ?_; rintro e w4 ⟨rfl, ⟨ls, hls, hB4, hlen⟩, hb4⟩))
  go_end0
  refine ⟨rfl, ⟨_, .line ⟨ls, ?_, hls, rfl⟩, by simpa using hB4, ?_⟩, hb3.out.trans hb4⟩
  · rintro rfl
    have := hls.len
    simp at this
    exact hne this
  · simp only [List.length_append, kLine, List.length_cons, List.length_nil]; omega
set_option maxHeartbeats 1000000 in
set_option maxRecDepth 100000 in
theorem wkt_mpt0 {NT : List UInt8 → Nat → Prop} (B b : Nat) (l : List UInt8) (ao : Option Addr) (cap : Nat) (w : World) (hB : Buf B b l w) (hl : l.length + 64 ≤ 140737488355328) :
    Calls Tryz.prog 18 #[.pointer (some ⟨b, 0, none⟩), .iface 54 (.slice ao 0 cap)] w (WkOut NT B b l (.mpt []) 1 w) := by
  have t1 := ta_54_47
  have t2 := ta_54_54
  replace hB := hide hB
  have kc := fun (w : World) (C : Array Value) (n c : Nat) => Lib.run_convert_bytes_const (P := Tryz.prog) w 66 5 C n c under66 under5
  go_enter Tryz.func18, Tryz.ntmps18
  go_wp2_with (first
    | (go_at_call 35; refine (wlit_any B b l (kMulti ++ emp) 16 _ _ _ w hB.out rfl rfl (by omega)).mono ?_; rintro e w2 ⟨rfl, hB2, hb2⟩))
  go_end0
  exact ⟨rfl, ⟨_, .mpt0, hB2, by decide⟩, hb2⟩
theorem pt_str3 (s1 s2 : ByteArray) : bs ((⟨#[40]⟩ : ByteArray) ++ s1 ++ ⟨#[32]⟩ ++ s2 ++ ⟨#[41]⟩) = br (bs s1 ++ 32 :: bs s2) := by
  rw [bs_append, bs_append, bs_append, bs_append]
  show [40] ++ bs s1 ++ [32] ++ bs s2 ++ [41] = _
  simp [br]
theorem pt_str3_size (s1 s2 : ByteArray) (h1 : s1.size ≤ 24) (h2 : s2.size ≤ 24) : ((⟨#[40]⟩ : ByteArray) ++ s1 ++ ⟨#[32]⟩ ++ s2 ++ ⟨#[41]⟩).size ≤ 51 := by
  rw [← bs_len, pt_str3]; simp only [br, List.length_append, List.length_cons, List.length_nil, bs_len]; omega
set_option maxHeartbeats 4000000 in
set_option maxRecDepth 100000 in
theorem wkt_mpt1 {NT : List UInt8 → Nat → Prop} (N : NumOut NT) (G B b : Nat) (l : List UInt8) (v : Value) (ps : List (Nat × Nat)) (w : World) (hG : Glob G w) (hGB : G ≤ B) (hB : Buf B b l w) (hv : StayB B (IsSl 2 PtIt v ps) w)
    (hgood : ∀ p ∈ ps, GoodPt p) (hne : ps ≠ []) (hl : l.length + 64 * (ps.length + 1) ≤ 140737488355328) :
    Calls Tryz.prog 18 #[.pointer (some ⟨b, 0, none⟩), .iface 54 v] w (WkOut NT B b l (.mpt ps) (ps.length + 1) w) := by
  have t1 := ta_54_47
  have t2 := ta_54_54
  obtain ⟨ao, cap, rfl, _⟩ := pts_at hv.get
  have hn0 : 0 < ps.length := List.length_pos_iff.mpr hne
  have hsf := store_float
  replace hB := hide hB
  replace hG := hide hG
  replace hgood := hide hgood
  replace hvB := hide hv
  clear hv
  have kc := fun (w : World) (C : Array Value) (n c : Nat) => Lib.run_convert_bytes_const (P := Tryz.prog) w 66 5 C n c under66 under5
  go_enter Tryz.func18, Tryz.ntmps18
  go_wp2_with (first
    | (go_at_call 35; refine (wlit_any B b l (kMulti ++ [40]) 11 _ _ _ w hB.out rfl rfl (by omega)).mono ?_; rintro e w1 ⟨rfl, hB1, hb1⟩; (replace hb1 := hide hb1); (replace hB1 := hide hB1)))
  go_loopw [59] (fun i wr => ∃ (k : Nat) (ls : List (List UInt8)), k ≤ ps.length ∧ i = .int .i64 k ∧ Hid (All2 (MemT NT) ls (ps.take k)) ∧ Hid (Buf B b ((l ++ kMulti) ++ 40 :: jn ls) wr) ∧ (jn ls).length ≤ 64 * k ∧ Hid (Below B w wr))
    (fun i _ => ps.length - (intOf i).toNat)
  case atStart => exact ⟨0, [], Nat.zero_le _, rfl, hide (by simpa using All2.nil), hide (by simpa [jn] using hB1.out), by simp [jn], hb1⟩
  case round =>
    obtain ⟨k, ls, hk, rfl, hls, hBr, hlen, hbr⟩ := hrel
    have hGsz : G ≤ wr.heap.size := by have := hBr.out.2; omega
    have hkm : kMulti.length = 10 := rfl
    by_cases hlt : k < ps.length
    · obtain ⟨⟨x, y⟩, hxy⟩ : ∃ p, ps[k]? = some p := ⟨_, List.getElem?_eq_getElem hlt⟩
      have hg2 := hide (hgood.out (x, y) (List.mem_of_getElem? hxy))
      obtain ⟨ao', cap', he, hcell⟩ := pts_at (hvB.out _ hbr.out)
      injection he with he1 _ he2
      subst he1; subst he2
      obtain ⟨bb, rfl, hc0, hc1⟩ := hcell k x y hxy
      clear hcell
      replace hxy := hide hxy
      have hBa := hide (hBr.out.ext (below_alloc wr (.cells #[.float .f64 x, .float .f64 y] 47)))
      have hCa := hide (Blk.new wr 47 #[.float .f64 x, .float .f64 y])
      have hwb := hBr.out.lt
      by_cases hk0 : k = 0
      · have hls0 : ls = [] := by subst hk0; exact all2_nil (by simpa using hls.out)
        subst hk0
        have hCq := hCa
        have hGa := hide ((hG.out.below (hbr.out.mono hGB)).up (below_alloc wr (.cells #[.float .f64 x, .float .f64 y] 47)))
        go_wp2
        go_region_law (first
          | (go_simp; go_at_call 34; refine (N.write G x _ (hGa.out.drewN 1) hg2.out.1).mono ?_; rintro e w2 ⟨⟨s1, rfl, hs1, hl1⟩, hbl1⟩; (have hb2 := hide ((below_drewN (Below.refl _ (wr.alloc (.cells #[.float .f64 x, .float .f64 y] 47))) 1).trans hbl1)); (have q1 : ¬ 9223372036854775807 < 1 + s1.size := by omega); (have q2 : ¬ 9223372036854775807 < 1 + s1.size + 1 := by omega); (have hc2 := (hCq.out.below hb2.out hCq.out.lt).cell 1); (simp only [List.getElem?_toArray, List.getElem?_cons_zero, List.getElem?_cons_succ] at hc2); (clear hbl1))
          | (go_simp; go_at_call 34; refine (N.write G y _ (hGa.out.up hb2.out) hg2.out.2).mono ?_; rintro e w3 ⟨⟨s2, rfl, hs2, hl2⟩, hbl3⟩; (have q3 : ¬ 9223372036854775807 < 1 + s1.size + 1 + s2.size := by omega); (have q4 : ¬ 9223372036854775807 < 1 + s1.size + 1 + s2.size + 1 := by omega); (have hb3 := hide (hb2.out.trans (hbl3.mono hb2.out.size))); (clear hbl3))
          | (go_simp; go_at_call 33; (have hsz := pt_str3_size s1 s2 hl1 hl2); refine (wstring_any B b _ _ w3 (hBa.out.ext hb3.out) (by simp only [List.length_append, List.length_cons, List.length_nil] at *; omega)).mono ?_; rintro e w4 ⟨rfl, hB4, hb4, _⟩))
        all_goals (
          go_wp2
          have hp : MemT NT (br (bs s1 ++ 32 :: bs s2)) (x, y) := ⟨_, ⟨_, _, rfl, hs1, hs2⟩, rfl⟩
          have hpl : (br (bs s1 ++ 32 :: bs s2)).length ≤ 51 := by rw [← pt_str3, bs_len]; exact pt_str3_size s1 s2 hl1 hl2
          subst hls0
          refine ⟨⟨0 + 1, [] ++ [br (bs s1 ++ 32 :: bs s2)], hlt, rfl, hide ?_, hide ?_, ?_, hide ?_⟩, by simp [intOf]; omega⟩
          · rw [take_one hxy.out]; exact hls.out.snoc hp
          · rw [pt_str3] at hB4; simpa [jn] using hB4
          · simp only [List.nil_append, jn]; omega
          · exact (hbr.out.trans (((below_alloc wr _).trans (hb3.out.mono (by simp))).mono (by omega))).trans hb4)
      · have hls0 : ls ≠ [] := fun h => by subst h; have h2 := hls.out.len; rw [List.length_take, List.length_nil] at h2; omega
        go_wp2_with (first | (go_at_call 36; refine (wbyte_any B b _ 44 44 rfl _ hBa.out (by simp only [List.length_append, List.length_cons] at *; omega)).mono ?_; rintro e wq ⟨rfl, hBq, hbq, hoq⟩; (have hCq := hide (hCa.out.others hoq (by omega) (by decide))); (have hGa := hide ((hG.out.below (hbr.out.mono hGB)).below ((below_alloc wr (.cells #[.float .f64 x, .float .f64 y] 47)).mono hGsz |>.trans (hbq.mono hGB)))); (have hc5 := hCq.out.cell 0); (have hc6 := hCq.out.cell 1); (simp only [List.getElem?_toArray, List.getElem?_cons_zero, List.getElem?_cons_succ] at hc5 hc6); (replace hBa := hide hBq); (replace hbq := hide hbq)))
        go_region_law (first
          | (go_simp; go_at_call 34; refine (N.write G x _ (hGa.out.drewN 1) hg2.out.1).mono ?_; rintro e w2 ⟨⟨s1, rfl, hs1, hl1⟩, hbl1⟩; (have hb2 := hide ((below_drewN (Below.refl _ wq) 1).trans hbl1)); (have q1 : ¬ 9223372036854775807 < 1 + s1.size := by omega); (have q2 : ¬ 9223372036854775807 < 1 + s1.size + 1 := by omega); (have hc2 := (hCq.out.below hb2.out hCq.out.lt).cell 1); (simp only [List.getElem?_toArray, List.getElem?_cons_zero, List.getElem?_cons_succ] at hc2); (clear hbl1))
          | (go_simp; go_at_call 34; refine (N.write G y _ (hGa.out.up hb2.out) hg2.out.2).mono ?_; rintro e w3 ⟨⟨s2, rfl, hs2, hl2⟩, hbl3⟩; (have q3 : ¬ 9223372036854775807 < 1 + s1.size + 1 + s2.size := by omega); (have q4 : ¬ 9223372036854775807 < 1 + s1.size + 1 + s2.size + 1 := by omega); (have hb3 := hide (hb2.out.trans (hbl3.mono hb2.out.size))); (clear hbl3))
          | (go_simp; go_at_call 33; (have hsz := pt_str3_size s1 s2 hl1 hl2); refine (wstring_any B b _ _ w3 (hBa.out.ext hb3.out) (by simp only [List.length_append, List.length_cons, List.length_nil] at *; omega)).mono ?_; rintro e w4 ⟨rfl, hB4, hb4, _⟩))
        all_goals (
          go_wp2
          have hp : MemT NT (br (bs s1 ++ 32 :: bs s2)) (x, y) := ⟨_, ⟨_, _, rfl, hs1, hs2⟩, rfl⟩
          have hpl : (br (bs s1 ++ 32 :: bs s2)).length ≤ 51 := by rw [← pt_str3, bs_len]; exact pt_str3_size s1 s2 hl1 hl2
          refine ⟨⟨k + 1, ls ++ [br (bs s1 ++ 32 :: bs s2)], hlt, rfl, hide ?_, hide ?_, ?_, hide ?_⟩, by simp [intOf]; omega⟩
          · rw [take_one hxy.out]; exact hls.out.snoc hp
          · rw [pt_str3] at hB4; rw [jn_snoc _ hls0]; simpa using hB4
          · rw [jn_snoc _ hls0, List.length_append, List.length_cons]; omega
          · exact (hbr.out.trans (((below_alloc wr _).mono (by omega)).trans (hbq.out.trans (hb3.out.mono (by have := hbq.out.size; simp at this ⊢; omega))))).trans hb4)
    · have hkk : k = ps.length := by omega
      go_wp2_with (first
        | (go_at_call 36; (with_reducible refine (wbyte_any B b _ 41 41 rfl _ hBr.out (by simp only [List.length_append, List.length_cons] at *; omega)).mono ?_); rintro e w5 ⟨rfl, hB5, hb5, _⟩))
      go_end0
      have hall : All2 (MemT NT) ls ps := by have := hls.out; rwa [hkk, List.take_length] at this
      refine ⟨rfl, ⟨_, .mpt ⟨ls, ?_, hall, rfl⟩, ?_, ?_⟩, hbr.out.trans hb5⟩
      · rintro rfl
        have := hall.len
        simp at this
        exact hne this
      · simpa [br] using hB5
      · simp only [br, List.length_cons, List.length_append, List.length_nil]; omega
end Go.Proofs.YtgmbjdoifkjdhaaGreatDoor
