/- Writing into the buffer: bytes, strings, a line's points. wkt: a point, a line, points. -/
import Derived.Test.YtgmbjdoifkjdhaaGreatDoorKo
import Derived.Test.YtgmbjdoifkjdhaaGreatDoorKp
section
namespace Go.Proofs.YtgmbjdoifkjdhaaGreatDoor
open Go.RowKit

/-- The buffer at block b holds these bytes; all that bears it lies from B on. -/
def Buf (B b : Nat) (l : List UInt8) (w : World) : Prop := Lib.IsBuffer 90 5 B b (Lib.byteCells l) w ∧ B ≤ w.heap.size
theorem Buf.ext {B b : Nat} {l : List UInt8} {w w' : World} (h : Buf B b l w) (hb : Below w.heap.size w w') : Buf B b l w' := by
  obtain ⟨⟨h1, v, lr, h2, h3, h4⟩, h5⟩ := h
  have hg : w.grownBy w' none := ⟨hb.os, hb.tape, hb.output, hb.size, fun k hk _ => hb.block k hk⟩
  have hlt : b < w.heap.size := by
    rcases Nat.lt_or_ge b w.heap.size with h' | h'
    · exact h'
    · rw [Array.getElem?_eq_none h'] at h2; cases h2
  exact ⟨⟨h1, v, lr, (hb.block b hlt).trans h2, h3.kept hg (by cases v.ownBlock <;> simp), h4⟩, Nat.le_trans h5 hb.size⟩
theorem byteCells_one (l : List UInt8) : ∀ v ∈ Lib.byteCells l, v.oneCell' = true := by
  intro v hv
  obtain ⟨c, _, rfl⟩ := List.mem_map.mp hv
  rfl
theorem byteCells_cat (l l' : List UInt8) : Lib.byteCells l ++ Lib.byteCells l' = Lib.byteCells (l ++ l') := (List.map_append ..).symm
theorem wbyte_any (B b : Nat) (l : List UInt8) (c : UInt8) (x : Int) (hx : x = c.toNat) (w : World) (h : Buf B b l w) (hl : l.length + 1 ≤ 140737488355328) :
    Calls Tryz.prog 36 #[.pointer (some ⟨b, 0, none⟩), .int .u8 x] w fun e w' => e = .returned .nilIface ∧ Buf B b (l ++ [c]) w' ∧ Below B w w' ∧ Lib.OthersKept 5 (some b) w w' := by
  subst hx
  refine (Tryz.Buffer_WriteByte_k B b (Lib.byteCells l) c.toNat w h.1 h.2 (byteCells_one l) (by rw [Lib.byteCells_length]; exact hl)).mono ?_
  rintro e w' ⟨rfl, h1, h2, h3⟩
  refine ⟨rfl, ⟨?_, Nat.le_trans h.2 h2.size⟩, h2, h3⟩
  have := byteCells_cat l [c]
  rw [← this]; exact h1
theorem wstring_any (B b : Nat) (l : List UInt8) (s : ByteArray) (w : World) (h : Buf B b l w) (hl : l.length + s.size ≤ 140737488355328) :
    Calls Tryz.prog 33 #[.pointer (some ⟨b, 0, none⟩), .string s] w fun e w' => e = .returned (.tuple #[.int .i64 s.size, .nilIface]) ∧ Buf B b (l ++ bs s) w' ∧ Below B w w' ∧ Lib.OthersKept 5 (some b) w w' := by
  refine (Tryz.Buffer_WriteString_k B b (Lib.byteCells l) s w h.1 h.2 (byteCells_one l) (by rw [Lib.byteCells_length]; exact hl)).mono ?_
  rintro e w' ⟨rfl, h1, h2, h3⟩
  refine ⟨rfl, ⟨?_, Nat.le_trans h.2 h2.size⟩, h2, h3⟩
  rw [← byteCells_cat]; exact h1
theorem write_any (B b : Nat) (l l' : List UInt8) (g n c : Nat) (w : World) (h : Buf B b l w) (hn : l'.length = n) (hg : Blk w g 5 (Lib.byteCells l').toArray) (hgb : g ≠ b) (hl : l.length + n ≤ 140737488355328) :
    Calls Tryz.prog 35 #[.pointer (some ⟨b, 0, none⟩), .slice (some ⟨g, 0, none⟩) n c] w fun e w' => e = .returned (.tuple #[.int .i64 n, .nilIface]) ∧ Buf B b (l ++ l') w' ∧ Below B w w' ∧ Lib.OthersKept 5 (some b) w w' := by
  refine (Tryz.Buffer_Write_any B b (Lib.byteCells l) (Lib.byteCells l') ⟨g, 0, none⟩ n c w h.1 h.2 (byteCells_one l) (by rw [Lib.byteCells_length]; exact hn) hgb ?_ (byteCells_one l') (by rw [Lib.byteCells_length]; exact hl)).mono ?_
  · intro j v hj
    have hadd : (⟨g, 0, none⟩ : Addr).add j = ⟨g, j, none⟩ := by unfold Addr.add; split <;> simp_all
    rw [hadd, hg.cell]
    simpa using hj
  · rintro e w' ⟨rfl, h1, h2, h3⟩
    refine ⟨rfl, ⟨?_, Nat.le_trans h.2 h2.size⟩, h2, h3⟩
    rw [← byteCells_cat]; exact h1
theorem Buf.lt {B b : Nat} {l : List UInt8} {w : World} (h : Buf B b l w) : B ≤ b ∧ b < w.heap.size := by
  obtain ⟨⟨h1, v, lr, h2, _⟩, _⟩ := h
  refine ⟨h1, ?_⟩
  rcases Nat.lt_or_ge b w.heap.size with h' | h'
  · exact h'
  · rw [Array.getElem?_eq_none h'] at h2; cases h2
theorem Blk.others {w w' : World} {g b : Nat} {t : TypeId} {cs : Array Value} (h : Blk w g t cs) (ho : Lib.OthersKept 5 (some b) w w') (hg : g ≠ b) (ht : t ≠ 5) : Blk w' g t cs :=
  ho g _ h (fun he => hg (by injection he)) (fun c fz he => ht (by injection he))
theorem jn_snoc {ls : List (List UInt8)} (p : List UInt8) (h : ls ≠ []) : jn (ls ++ [p]) = jn ls ++ 44 :: p := by
  induction ls with
  | nil => exact absurd rfl h
  | cons q r ih =>
    cases r with
    | nil => rfl
    | cons q' r =>
      show q ++ 44 :: jn (q' :: r ++ [p]) = (q ++ 44 :: jn (q' :: r)) ++ 44 :: p
      rw [ih (by simp)]; simp
theorem pt_str (s1 s2 : ByteArray) : bs ((⟨#[]⟩ : ByteArray) ++ s1 ++ ⟨#[32]⟩ ++ s2 ++ ⟨#[]⟩) = bs s1 ++ 32 :: bs s2 := by
  rw [bs_append, bs_append, bs_append, bs_append]
  show [] ++ bs s1 ++ [32] ++ bs s2 ++ [] = _
  simp
theorem pt_str_size (s1 s2 : ByteArray) (h1 : s1.size ≤ 24) (h2 : s2.size ≤ 24) : ((⟨#[]⟩ : ByteArray) ++ s1 ++ ⟨#[32]⟩ ++ s2 ++ ⟨#[]⟩).size ≤ 49 := by
  rw [← bs_len, pt_str, List.length_append, List.length_cons, bs_len, bs_len]; omega
theorem all2_nil {X : Type} {R : List UInt8 → X → Prop} {ls : List (List UInt8)} (h : All2 R ls []) : ls = [] := by cases h; rfl
theorem take_one {X : Type} {xs : List X} {k : Nat} {x : X} (h : xs[k]? = some x) : xs.take (k + 1) = xs.take k ++ [x] := by rw [List.take_add_one, h]; rfl
/-- Numbers are written as texts of theirs. -/
structure NumOut (NT : List UInt8 → Nat → Prop) : Prop where
  write : ∀ (B x : Nat) (w : World), Glob B w → Fl.Good x → Calls Tryz.prog 34 #[.float .f64 x] w fun e w' => (∃ s, e = .returned (.string s) ∧ NT (bs s) x ∧ s.size ≤ 24) ∧ Below w.heap.size w w'

set_option maxHeartbeats 1000000 in
set_option maxRecDepth 100000 in
theorem wls_any {NT : List UInt8 → Nat → Prop} (N : NumOut NT) (G B b : Nat) (l : List UInt8) (v : Value) (ps : List (Nat × Nat)) (w : World) (hG : Glob G w) (hGB : G ≤ B) (hB : Buf B b l w) (hv : Stay (IsSl 2 PtIt v ps) w)
    (hvB : ∀ w', Below B w w' → IsSl 2 PtIt v ps w') (hgood : ∀ p ∈ ps, GoodPt p) (hl : l.length + 64 * ps.length + 2 ≤ 140737488355328) :
    Calls Tryz.prog 37 #[.pointer (some ⟨b, 0, none⟩), v] w fun e w' => e = .returned (.tuple #[]) ∧ (∃ ls, All2 (PtText NT) ls ps ∧ Buf B b (l ++ br (jn ls)) w' ∧ (br (jn ls)).length ≤ 64 * ps.length + 2) ∧ Below B w w' := by
  obtain ⟨ao, cap, rfl, _⟩ := pts_at hv.get
  have hsf := store_float
  clear hv
  replace hvB := hide hvB
  replace hgood := hide hgood
  replace hG := hide hG
  replace hB := hide hB
  go_enter Tryz.func37, Tryz.ntmps37
  go_wp2_with (first
    | (go_at_call 36; (with_reducible refine (wbyte_any B b l 40 40 rfl _ hB.out (by omega)).mono ?_); rintro e w1 ⟨rfl, hB1, hb1, _⟩; (replace hB1 := hide hB1); (replace hb1 := hide hb1)))
  go_loopw [10] (fun i wr => ∃ (k : Nat) (ls : List (List UInt8)), k ≤ ps.length ∧ i = .int .i64 k ∧ Hid (All2 (PtText NT) ls (ps.take k)) ∧ Hid (Buf B b (l ++ 40 :: jn ls) wr) ∧ (jn ls).length ≤ 64 * k ∧ Hid (Below B w wr))
    (fun i _ => ps.length - (intOf i).toNat)
  case atStart => exact ⟨0, [], Nat.zero_le _, rfl, hide (by simpa using All2.nil), hB1, by simp [jn], hb1⟩
  case round =>
    obtain ⟨k, ls, hk, rfl, hls, hBr, hlen, hbr⟩ := hrel
    have hGsz : G ≤ wr.heap.size := by have := hBr.out.2; omega
    by_cases hlt : k < ps.length
    · obtain ⟨⟨x, y⟩, hxy⟩ : ∃ p, ps[k]? = some p := ⟨_, List.getElem?_eq_getElem hlt⟩
      have hg2 := hide (hgood.out (x, y) (List.mem_of_getElem? hxy))
      obtain ⟨ao', cap', he, hcell⟩ := pts_at (hvB.out _ hbr.out)
      injection he with he1 _ he2
      subst he1; subst he2
      obtain ⟨bb, rfl, hc0, hc1⟩ := hcell k x y hxy
      clear hcell
      replace hxy := hide hxy
      have hBa := hide (hBr.out.ext (below_alloc wr (.cells #[.float .f64 x, .float .f64 y] 47)))
      have hCa := hide (Blk.new wr 47 #[.float .f64 x, .float .f64 y])
      have hwb := hBr.out.lt
      by_cases hk0 : k = 0
      · have hls0 : ls = [] := by subst hk0; exact all2_nil (by simpa using hls.out)
        subst hk0
        have hCq := hCa
        have hGa := hide ((hG.out.below (hbr.out.mono hGB)).up (below_alloc wr (.cells #[.float .f64 x, .float .f64 y] 47)))
        go_wp2
        go_region_law (first
          | (go_simp; go_at_call 34; refine (N.write G x _ (hGa.out.drewN 1) hg2.out.1).mono ?_; rintro e w2 ⟨⟨s1, rfl, hs1, hl1⟩, hbl1⟩; (have hb2 := hide ((below_drewN (Below.refl _ (wr.alloc (.cells #[.float .f64 x, .float .f64 y] 47))) 1).trans hbl1)); (have q1 : ¬ 9223372036854775807 < s1.size := by omega); (have q2 : ¬ 9223372036854775807 < s1.size + 1 := by omega); (have hc2 := (hCq.out.below hb2.out hCq.out.lt).cell 1); (simp only [List.getElem?_toArray, List.getElem?_cons_zero, List.getElem?_cons_succ] at hc2); (clear hbl1))
          | (go_simp; go_at_call 34; refine (N.write G y _ (hGa.out.up hb2.out) hg2.out.2).mono ?_; rintro e w3 ⟨⟨s2, rfl, hs2, hl2⟩, hbl3⟩; (have q3 : ¬ 9223372036854775807 < s1.size + 1 + s2.size := by omega); (have hb3 := hide (hb2.out.trans (hbl3.mono hb2.out.size))); (clear hbl3))
          | (go_simp; go_at_call 33; (have hsz := pt_str_size s1 s2 hl1 hl2); refine (wstring_any B b _ _ w3 (hBa.out.ext hb3.out) (by simp only [List.length_append, List.length_cons, List.length_nil] at *; omega)).mono ?_; rintro e w4 ⟨rfl, hB4, hb4, _⟩))
        all_goals (
          go_wp2
          have hp : PtText NT (bs s1 ++ 32 :: bs s2) (x, y) := ⟨_, _, rfl, hs1, hs2⟩
          have hpl : (bs s1 ++ 32 :: bs s2).length ≤ 49 := by rw [List.length_append, List.length_cons, bs_len, bs_len]; omega
          subst hls0
          refine ⟨⟨0 + 1, [] ++ [bs s1 ++ 32 :: bs s2], hlt, rfl, hide ?_, hide ?_, ?_, hide ?_⟩, by simp [intOf]; omega⟩
          · rw [take_one hxy.out]; exact hls.out.snoc hp
          · rw [pt_str] at hB4; simpa [jn] using hB4
          · simp only [List.nil_append, jn]; omega
          · exact (hbr.out.trans (((below_alloc wr _).trans (hb3.out.mono (by simp))).mono (by omega))).trans hb4)
      · have hls0 : ls ≠ [] := fun h => by subst h; have h2 := hls.out.len; rw [List.length_take, List.length_nil] at h2; omega
        go_wp2_with (first | (go_at_call 36; refine (wbyte_any B b _ 44 44 rfl _ hBa.out (by simp only [List.length_append, List.length_cons] at *; omega)).mono ?_; rintro e wq ⟨rfl, hBq, hbq, hoq⟩; (have hCq := hide (hCa.out.others hoq (by omega) (by decide))); (have hGa := hide ((hG.out.below (hbr.out.mono hGB)).below ((below_alloc wr (.cells #[.float .f64 x, .float .f64 y] 47)).mono hGsz |>.trans (hbq.mono hGB)))); (have hc5 := hCq.out.cell 0); (have hc6 := hCq.out.cell 1); (simp only [List.getElem?_toArray, List.getElem?_cons_zero, List.getElem?_cons_succ] at hc5 hc6); (replace hBa := hide hBq); (replace hbq := hide hbq)))
        go_region_law (first
          | (go_simp; go_at_call 34; refine (N.write G x _ (hGa.out.drewN 1) hg2.out.1).mono ?_; rintro e w2 ⟨⟨s1, rfl, hs1, hl1⟩, hbl1⟩; (have hb2 := hide ((below_drewN (Below.refl _ wq) 1).trans hbl1)); (have q1 : ¬ 9223372036854775807 < s1.size := by omega); (have q2 : ¬ 9223372036854775807 < s1.size + 1 := by omega); (have hc2 := (hCq.out.below hb2.out hCq.out.lt).cell 1); (simp only [List.getElem?_toArray, List.getElem?_cons_zero, List.getElem?_cons_succ] at hc2); (clear hbl1))
          | (go_simp; go_at_call 34; refine (N.write G y _ (hGa.out.up hb2.out) hg2.out.2).mono ?_; rintro e w3 ⟨⟨s2, rfl, hs2, hl2⟩, hbl3⟩; (have q3 : ¬ 9223372036854775807 < s1.size + 1 + s2.size := by omega); (have hb3 := hide (hb2.out.trans (hbl3.mono hb2.out.size))); (clear hbl3))
          | (go_simp; go_at_call 33; (have hsz := pt_str_size s1 s2 hl1 hl2); refine (wstring_any B b _ _ w3 (hBa.out.ext hb3.out) (by simp only [List.length_append, List.length_cons, List.length_nil] at *; omega)).mono ?_; rintro e w4 ⟨rfl, hB4, hb4, _⟩))
        all_goals (
          go_wp2
          have hp : PtText NT (bs s1 ++ 32 :: bs s2) (x, y) := ⟨_, _, rfl, hs1, hs2⟩
          have hpl : (bs s1 ++ 32 :: bs s2).length ≤ 49 := by rw [List.length_append, List.length_cons, bs_len, bs_len]; omega
          refine ⟨⟨k + 1, ls ++ [bs s1 ++ 32 :: bs s2], hlt, rfl, hide ?_, hide ?_, ?_, hide ?_⟩, by simp [intOf]; omega⟩
          · rw [take_one hxy.out]; exact hls.out.snoc hp
          · rw [pt_str] at hB4; rw [jn_snoc _ hls0]; simpa using hB4
          · rw [jn_snoc _ hls0, List.length_append, List.length_cons]; omega
          · exact (hbr.out.trans (((below_alloc wr _).mono (by omega)).trans (hbq.out.trans (hb3.out.mono (by have := hbq.out.size; simp at this ⊢; omega))))).trans hb4)
    · have hkk : k = ps.length := by omega
      go_wp2_with (first
        | (go_at_call 36; (with_reducible refine (wbyte_any B b _ 41 41 rfl _ hBr.out (by simp only [List.length_append, List.length_cons] at *; omega)).mono ?_); rintro e w5 ⟨rfl, hB5, hb5, _⟩))
      go_end0
      refine ⟨rfl, ⟨ls, ?_, ?_, ?_⟩, hbr.out.trans hb5⟩
      · have := hls.out; rwa [hkk, List.take_length] at this
      · simpa [br] using hB5
      · simp only [br, List.length_cons, List.length_append, List.length_nil]; omega
end Go.Proofs.YtgmbjdoifkjdhaaGreatDoor
end
section
namespace Go.Proofs.YtgmbjdoifkjdhaaGreatDoor
open Go.RowKit

theorem ta_50_54 (v : Value) (w : World) : (Instr.typeAssert (.iface 50 v) 33 54 true).run Tryz.prog w = .ok (.tuple #[.slice none 0 0, .bool false]) w := by
  obtain ⟨i0, hi, hz0, _, _⟩ := info_parts info54
  simp [Instr.typeAssert, run_underlying under54, go_sem, Result.andThen, zeroValue, typeInfo, hi, hz0]
theorem ta_52_54 (v : Value) (w : World) : (Instr.typeAssert (.iface 52 v) 33 54 true).run Tryz.prog w = .ok (.tuple #[.slice none 0 0, .bool false]) w := by
  obtain ⟨i0, hi, hz0, _, _⟩ := info_parts info54
  simp [Instr.typeAssert, run_underlying under54, go_sem, Result.andThen, zeroValue, typeInfo, hi, hz0]
theorem ta_52_56 (v : Value) (w : World) : (Instr.typeAssert (.iface 52 v) 33 56 true).run Tryz.prog w = .ok (.tuple #[.slice none 0 0, .bool false]) w := by
  obtain ⟨i0, hi, hz0, _, _⟩ := info_parts info56
  simp [Instr.typeAssert, run_underlying under56, go_sem, Result.andThen, zeroValue, typeInfo, hi, hz0]
theorem ta_52_86 (v : Value) (w : World) : (Instr.typeAssert (.iface 52 v) 33 86 true).run Tryz.prog w = .ok (.tuple #[.slice none 0 0, .bool false]) w := by
  obtain ⟨i0, hi, hz0, _, _⟩ := info_parts info86
  simp [Instr.typeAssert, run_underlying under86, go_sem, Result.andThen, zeroValue, typeInfo, hi, hz0]
theorem ta_58_86 (v : Value) (w : World) : (Instr.typeAssert (.iface 58 v) 33 86 true).run Tryz.prog w = .ok (.tuple #[.slice none 0 0, .bool false]) w := by
  obtain ⟨i0, hi, hz0, _, _⟩ := info_parts info86
  simp [Instr.typeAssert, run_underlying under86, go_sem, Result.andThen, zeroValue, typeInfo, hi, hz0]
theorem ta_60_86 (v : Value) (w : World) : (Instr.typeAssert (.iface 60 v) 33 86 true).run Tryz.prog w = .ok (.tuple #[.slice none 0 0, .bool false]) w := by
  obtain ⟨i0, hi, hz0, _, _⟩ := info_parts info86
  simp [Instr.typeAssert, run_underlying under86, go_sem, Result.andThen, zeroValue, typeInfo, hi, hz0]

/-- Points and all that holds them, one each. -/
def crow (rs : List (List (Nat × Nat))) : Nat := (rs.map fun r => r.length + 1).sum
def cpol (xs : List (List (List (Nat × Nat)))) : Nat := (xs.map fun rs => crow rs + 1).sum
inductive Cost : Geom → Nat → Prop
  | pt {p : Nat × Nat} : Cost (.pt p) 1
  | line {ps : List (Nat × Nat)} : Cost (.line ps) (ps.length + 1)
  | poly {rs : List (List (Nat × Nat))} : Cost (.poly rs) (crow rs + 1)
  | mpt {ps : List (Nat × Nat)} : Cost (.mpt ps) (ps.length + 1)
  | mline {rs : List (List (Nat × Nat))} : Cost (.mline rs) (crow rs + 1)
  | mpoly {xs : List (List (List (Nat × Nat)))} : Cost (.mpoly xs) (cpol xs + 1)
  | coll {gs : List Geom} {cs : List Nat} (hl : cs.length = gs.length) (h : ∀ (i : Nat) (g : Geom) (c : Nat), gs[i]? = some g → cs[i]? = some c → Cost g c) : Cost (.coll gs) (cs.sum + 1)

/-- What wkt does. -/
def WkOut (NT : List UInt8 → Nat → Prop) (B b : Nat) (l : List UInt8) (g : Geom) (c : Nat) (w : World) (e : Ending) (w' : World) : Prop :=
  e = .returned (.tuple #[]) ∧ (∃ l', WT NT l' g ∧ Buf B b (l ++ l') w' ∧ l'.length + 8 ≤ 64 * c) ∧ Below B w w'
/-- R holds, and goes on holding as long as what lies below B stays. -/
def StayB (B : Nat) (R : World → Prop) (w : World) : Prop := ∀ w', Below B w w' → R w'
theorem StayB.get {B : Nat} {R : World → Prop} {w : World} (h : StayB B R w) : R w := h w (Below.refl _ _)
theorem StayB.below {B : Nat} {R : World → Prop} {w w' : World} (h : StayB B R w) (hb : Below B w w') : StayB B R w' := fun w2 h2 => h w2 (hb.trans h2)
theorem StayB.stay {B : Nat} {R : World → Prop} {w : World} (h : StayB B R w) (hB : B ≤ w.heap.size) : Stay R w := fun w2 h2 => h w2 (h2.mono hB)

theorem pt_str2 (s1 s2 : ByteArray) : bs ((⟨#[80, 79, 73, 78, 84, 40]⟩ : ByteArray) ++ s1 ++ ⟨#[32]⟩ ++ s2 ++ ⟨#[41]⟩) = kPoint ++ br (bs s1 ++ 32 :: bs s2) := by
  rw [bs_append, bs_append, bs_append, bs_append]
  show [80, 79, 73, 78, 84, 40] ++ bs s1 ++ [32] ++ bs s2 ++ [41] = _
  simp [kPoint, br]
theorem pt_str2_size (s1 s2 : ByteArray) (h1 : s1.size ≤ 24) (h2 : s2.size ≤ 24) : ((⟨#[80, 79, 73, 78, 84, 40]⟩ : ByteArray) ++ s1 ++ ⟨#[32]⟩ ++ s2 ++ ⟨#[41]⟩).size ≤ 56 := by
  rw [← bs_len, pt_str2]; simp only [kPoint, br, List.length_append, List.length_cons, List.length_nil, bs_len]; omega

set_option maxHeartbeats 1000000 in
set_option maxRecDepth 100000 in
theorem wkt_pt {NT : List UInt8 → Nat → Prop} (N : NumOut NT) (G B b : Nat) (l : List UInt8) (p : Nat × Nat) (w : World) (hG : Glob G w) (hB : Buf B b l w) (hg2 : GoodPt p) (hl : l.length + 64 ≤ 140737488355328) :
    Calls Tryz.prog 18 #[.pointer (some ⟨b, 0, none⟩), .iface 47 (.agg #[.float .f64 p.1, .float .f64 p.2])] w (WkOut NT B b l (.pt p) 1 w) := by
  obtain ⟨x, y⟩ := p
  have t1 := ta_47_47
  have hsf := store_float
  have hGa := hide (hG.up (below_alloc w (.cells #[.float .f64 x, .float .f64 y] 47)))
  have hBa := hide (hB.ext (below_alloc w (.cells #[.float .f64 x, .float .f64 y] 47)))
  have hCq := hide (Blk.new w 47 #[.float .f64 x, .float .f64 y])
  have hBw := hB.2
  replace hg2 := hide hg2
  clear hG
  replace hB := hide hB
  go_enter Tryz.func18, Tryz.ntmps18
  go_wp2
  go_region_law (first
    | (go_simp; go_at_call 34; refine (N.write G x _ (hGa.out.drewN 1) hg2.out.1).mono ?_; rintro e w2 ⟨⟨s1, rfl, hs1, hl1⟩, hbl1⟩; (have hb2 := hide ((below_drewN (Below.refl _ (w.alloc (.cells #[.float .f64 x, .float .f64 y] 47))) 1).trans hbl1)); (have q1 : ¬ 9223372036854775807 < 6 + s1.size := by omega); (have q2 : ¬ 9223372036854775807 < 6 + s1.size + 1 := by omega); (have hc2 := (hCq.out.below hb2.out hCq.out.lt).cell 1); (simp only [List.getElem?_toArray, List.getElem?_cons_zero, List.getElem?_cons_succ] at hc2); (clear hbl1))
    | (go_simp; go_at_call 34; refine (N.write G y _ (hGa.out.up hb2.out) hg2.out.2).mono ?_; rintro e w3 ⟨⟨s2, rfl, hs2, hl2⟩, hbl3⟩; (have q3 : ¬ 9223372036854775807 < 6 + s1.size + 1 + s2.size := by omega); (have q4 : ¬ 9223372036854775807 < 6 + s1.size + 1 + s2.size + 1 := by omega); (have hb3 := hide (hb2.out.trans (hbl3.mono hb2.out.size))); (clear hbl3))
    | (go_simp; go_at_call 33; (have hsz := pt_str2_size s1 s2 hl1 hl2); refine (wstring_any B b _ _ w3 (hBa.out.ext hb3.out) (by omega)).mono ?_; rintro e w4 ⟨rfl, hB4, hb4, _⟩))
  all_goals (
    go_wp2
    go_end0
    refine ⟨rfl, ⟨_, .pt ⟨bs s1 ++ 32 :: bs s2, ⟨_, _, rfl, hs1, hs2⟩, rfl⟩, by rw [← pt_str2]; exact hB4, ?_⟩, (((below_alloc w _).trans (hb3.out.mono (by simp))).mono hBw).trans hb4⟩
    rw [← pt_str2, bs_len]; omega)
end Go.Proofs.YtgmbjdoifkjdhaaGreatDoor
end
