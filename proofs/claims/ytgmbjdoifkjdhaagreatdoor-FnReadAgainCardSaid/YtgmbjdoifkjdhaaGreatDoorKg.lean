/- The closures that make the row; the polygon closure. -/
import Derived.Test.YtgmbjdoifkjdhaaGreatDoorKf
namespace Go.Proofs.YtgmbjdoifkjdhaaGreatDoor
open Go.RowKit

/-- The captured row of the closures of splitByRegexpYield, from the world W1 on. -/
def RowInv {X : Type} (T e : Nat) (It : List Value → X → World → Prop) (R : List UInt8 → X → Prop) (Bw : Nat) (W1 : World) (done : List (List UInt8)) (w : World) : Prop :=
  ∃ v xs, Bw < W1.heap.size ∧ Cap T e 1 It R W1.heap.size W1.heap.size Bw W1 done v xs w

theorem Cap.begin {X : Type} {T e size : Nat} {It : List Value → X → World → Prop} {R : List UInt8 → X → Prop} {Bw : Nat} {W1 w1 : World} {old v : Value} (hb : Blk W1 Bw T #[old]) (hg : W1.grownBy w1 none)
    (hown : w1.ownsRow W1.heap.size e size v 0 []) : Cap T e size It R W1.heap.size W1.heap.size Bw W1 [] v ([] : List X) (w1.setCell ⟨Bw, 0, none⟩ v) := by
  have hb1 : Blk w1 Bw T #[old] := hb.grown hg (by simp)
  have hne : some Bw ≠ v.ownBlock := fun he => by have h1 := (hown.lt Bw he.symm).1; have h2 := hb.lt; omega
  refine ⟨Nat.le_refl _, hb1.set 0 v, (Built.start hown).setFar hne (.inr hb.lt) v, .nil, ?_⟩
  exact (Fr.of ((Below.refl W1.heap.size W1).grown hg (Nat.le_refl _) (by simp)) (Nat.le_refl _)).set v

theorem info52 : (Tryz.prog.info? 52).map (fun i => (i.zero, i.size, i.bytes)) = some (some (.slice none 0 0), 1, 24) := by kernel_rfl
theorem under58 : Tryz.prog.underlying 58 = some (.slice 52) := by kernel_rfl
set_option maxHeartbeats 1000000 in
theorem set47 {X : Type} {It : List Value → X → World → Prop} {R : List UInt8 → X → Prop} (Bw : Nat) (W1 : World) (n : Int) (h1 : 1 ≤ n) (h2 : n ≤ 1099511627777) (hb : Blk W1 Bw 52 #[.slice none 0 0]) :
    Calls Tryz.prog 47 #[.int .i64 n, .pointer (some ⟨Bw, 0, none⟩)] W1 fun e w' => e = .returned (.tuple #[]) ∧ RowInv 52 86 It R Bw W1 [] w' := by
  obtain ⟨i0, hi, hz0, hz1, hz2⟩ := info_parts info86
  obtain ⟨m, rfl⟩ := Int.eq_ofNat_of_zero_le (show 0 ≤ n by omega)
  replace hb := hide hb
  go_enter Tryz.func47, Tryz.ntmps47
  go_wp2_with (first
    | (at_make; refine wpList_make_own _ rfl _ _ 52 rfl W1.heap.size 86 i0 (.slice none 0 0) 1 under52 hi hz0 hz1 .i64 .i64 _ m rfl rfl rfl (by rw [hz2]; omega) (by unfold maxLen; omega) (Nat.le_refl _) ?_; intro w1 hown1 hgrow1; have hB1 := hb.out.grown hgrow1 (by simp); have hcc := hB1.cell 0; have hcf := hB1.frozen 0; simp only [List.getElem?_toArray, List.getElem?_cons_zero] at hcc; clear hB1))
  go_end0
  exact ⟨rfl, _, _, hb.out.lt, Cap.begin hb.out hgrow1 hown1⟩
set_option maxHeartbeats 1000000 in
theorem set56 {X : Type} {It : List Value → X → World → Prop} {R : List UInt8 → X → Prop} (Bw : Nat) (W1 : World) (n : Int) (h1 : 1 ≤ n) (h2 : n ≤ 1099511627777) (hb : Blk W1 Bw 52 #[.slice none 0 0]) :
    Calls Tryz.prog 56 #[.int .i64 n, .pointer (some ⟨Bw, 0, none⟩)] W1 fun e w' => e = .returned (.tuple #[]) ∧ RowInv 52 86 It R Bw W1 [] w' := by
  obtain ⟨i0, hi, hz0, hz1, hz2⟩ := info_parts info86
  obtain ⟨m, rfl⟩ := Int.eq_ofNat_of_zero_le (show 0 ≤ n by omega)
  replace hb := hide hb
  go_enter Tryz.func56, Tryz.ntmps56
  go_wp2_with (first
    | (at_make; refine wpList_make_own _ rfl _ _ 52 rfl W1.heap.size 86 i0 (.slice none 0 0) 1 under52 hi hz0 hz1 .i64 .i64 _ m rfl rfl rfl (by rw [hz2]; omega) (by unfold maxLen; omega) (Nat.le_refl _) ?_; intro w1 hown1 hgrow1; have hB1 := hb.out.grown hgrow1 (by simp); have hcc := hB1.cell 0; have hcf := hB1.frozen 0; simp only [List.getElem?_toArray, List.getElem?_cons_zero] at hcc; clear hB1))
  go_end0
  exact ⟨rfl, _, _, hb.out.lt, Cap.begin hb.out hgrow1 hown1⟩
set_option maxHeartbeats 1000000 in
theorem set51 {X : Type} {It : List Value → X → World → Prop} {R : List UInt8 → X → Prop} (Bw : Nat) (W1 : World) (n : Int) (h1 : 1 ≤ n) (h2 : n ≤ 1099511627777) (hb : Blk W1 Bw 56 #[.slice none 0 0]) :
    Calls Tryz.prog 51 #[.int .i64 n, .pointer (some ⟨Bw, 0, none⟩)] W1 fun e w' => e = .returned (.tuple #[]) ∧ RowInv 56 50 It R Bw W1 [] w' := by
  obtain ⟨i0, hi, hz0, hz1, hz2⟩ := info_parts info50
  obtain ⟨m, rfl⟩ := Int.eq_ofNat_of_zero_le (show 0 ≤ n by omega)
  replace hb := hide hb
  go_enter Tryz.func51, Tryz.ntmps51
  go_wp2_with (first
    | (at_make; refine wpList_make_own _ rfl _ _ 56 rfl W1.heap.size 50 i0 (.slice none 0 0) 1 under56 hi hz0 hz1 .i64 .i64 _ m rfl rfl rfl (by rw [hz2]; omega) (by unfold maxLen; omega) (Nat.le_refl _) ?_; intro w1 hown1 hgrow1; have hB1 := hb.out.grown hgrow1 (by simp); have hcc := hB1.cell 0; have hcf := hB1.frozen 0; simp only [List.getElem?_toArray, List.getElem?_cons_zero] at hcc; clear hB1))
  go_end0
  exact ⟨rfl, _, _, hb.out.lt, Cap.begin hb.out hgrow1 hown1⟩
set_option maxHeartbeats 1000000 in
theorem set54 {X : Type} {It : List Value → X → World → Prop} {R : List UInt8 → X → Prop} (Bw : Nat) (W1 : World) (n : Int) (h1 : 1 ≤ n) (h2 : n ≤ 1099511627777) (hb : Blk W1 Bw 58 #[.slice none 0 0]) :
    Calls Tryz.prog 54 #[.int .i64 n, .pointer (some ⟨Bw, 0, none⟩)] W1 fun e w' => e = .returned (.tuple #[]) ∧ RowInv 58 52 It R Bw W1 [] w' := by
  obtain ⟨i0, hi, hz0, hz1, hz2⟩ := info_parts info52
  obtain ⟨m, rfl⟩ := Int.eq_ofNat_of_zero_le (show 0 ≤ n by omega)
  replace hb := hide hb
  go_enter Tryz.func54, Tryz.ntmps54
  go_wp2_with (first
    | (at_make; refine wpList_make_own _ rfl _ _ 58 rfl W1.heap.size 52 i0 (.slice none 0 0) 1 under58 hi hz0 hz1 .i64 .i64 _ m rfl rfl rfl (by rw [hz2]; omega) (by unfold maxLen; omega) (Nat.le_refl _) ?_; intro w1 hown1 hgrow1; have hB1 := hb.out.grown hgrow1 (by simp); have hcc := hB1.cell 0; have hcf := hB1.frozen 0; simp only [List.getElem?_toArray, List.getElem?_cons_zero] at hcc; clear hB1))
  go_end0
  exact ⟨rfl, _, _, hb.out.lt, Cap.begin hb.out hgrow1 hown1⟩
theorem ent47 : ∀ (args : Array Value) (w : World), (callFunc 47 args).run Tryz.prog w = .ok (.enter 47 args) w := enters_of Tryz.func47 (by kernel_rfl) rfl
theorem ent48 : ∀ (args : Array Value) (w : World), (callFunc 48 args).run Tryz.prog w = .ok (.enter 48 args) w := enters_of Tryz.func48 (by kernel_rfl) rfl
theorem ent51 : ∀ (args : Array Value) (w : World), (callFunc 51 args).run Tryz.prog w = .ok (.enter 51 args) w := enters_of Tryz.func51 (by kernel_rfl) rfl
theorem ent52 : ∀ (args : Array Value) (w : World), (callFunc 52 args).run Tryz.prog w = .ok (.enter 52 args) w := enters_of Tryz.func52 (by kernel_rfl) rfl
theorem ent54 : ∀ (args : Array Value) (w : World), (callFunc 54 args).run Tryz.prog w = .ok (.enter 54 args) w := enters_of Tryz.func54 (by kernel_rfl) rfl
theorem ent56 : ∀ (args : Array Value) (w : World), (callFunc 56 args).run Tryz.prog w = .ok (.enter 56 args) w := enters_of Tryz.func56 (by kernel_rfl) rfl
theorem ent57 : ∀ (args : Array Value) (w : World), (callFunc 57 args).run Tryz.prog w = .ok (.enter 57 args) w := enters_of Tryz.func57 (by kernel_rfl) rfl

theorem rsp_len (s : ByteArray) (a : Nat) (ms : List (Nat × Nat)) : (rsp s a ms).length = ms.length + 1 := by
  induction ms generalizing a with
  | nil => rfl
  | cons x t ih => obtain ⟨f, t'⟩ := x; simp only [rsp, List.length_cons, ih]
theorem Parts.len {s : ByteArray} {dbl : Bool} {ps : List (List UInt8)} (h : Parts s dbl ps) : ps.length ≤ s.size + 1 := by
  obtain ⟨ms, h1, rfl⟩ := h
  rw [rsp_len]
  rcases h1.len with h | h
  · omega
  · rw [h, List.length_nil]; omega
def RowBad (Q : List UInt8 → Prop) (Bw : Nat) (W1 : World) (p : List UInt8) (w : World) : Prop := Q p ∧ Fr W1.heap.size Bw W1 w
theorem row_frame {X : Type} {T e : Nat} {It : List Value → X → World → Prop} {R : List UInt8 → X → Prop} {Bw : Nat} {w : World} (hb : Bw < w.heap.size) :
    ∀ W1 done w1, RowInv T e It R Bw W1 done w1 → ∀ g, w.heap.size ≤ g → g < W1.heap.size → w1.heap[g]? = W1.heap[g]? := by
  rintro W1 done w1 ⟨v, xs, _, hc⟩ g h1 h2
  exact hc.bel.block g h2 (by omega)
theorem Below.blkNil {w W1 : World} {Bw T : Nat} (h : Below w.heap.size w W1) (hb : Blk w Bw T #[.slice none 0 0]) : Blk W1 Bw T #[.slice none 0 0] := hb.below h hb.lt

theorem rows48 {NT : List UInt8 → Nat → Prop} (N : NumIO NT) (B : Nat) (w : World) (hg : Glob B w) (s : ByteArray) (hs : s.size ≤ 1099511627776) (Bw : Nat) (hBw : B ≤ Bw) :
    ∀ ps W1 done (p : ByteArray) rest w1, Parts s false ps → done ++ bs p :: rest = ps → p.size ≤ s.size → Below w.heap.size w W1 → RowInv 52 86 RowIt (RingR NT) Bw W1 done w1 →
      Calls Tryz.prog 48 (#[.string p] ++ #[.pointer (some ⟨Bw, 0, none⟩)]) w1 fun e w' => (e = .returned .nilIface ∧ RowInv 52 86 RowIt (RingR NT) Bw W1 (done ++ [bs p]) w') ∨ (∃ t q, e = .returned (.iface t q) ∧ RowBad (RingBad NT) Bw W1 (bs p) w') := by
  rintro ps W1 done p rest w1 h1 h2 h3 h4 ⟨v, xs, h5, hc⟩
  have h6 := h1.len
  have h7 := congrArg List.length h2
  rw [List.length_append, List.length_cons] at h7
  refine (add48 N B _ _ Bw W1 w1 done v xs p ((hg.up h4).below (hc.bel.below (Nat.le_trans hg.size h4.size) hBw)) (by omega) (by omega) hc.bel.size h5 hc).mono ?_
  rintro e w' (⟨rfl, v', xs', h⟩ | ⟨t, q, rfl, h8, h9⟩)
  · exact .inl ⟨rfl, v', xs', h5, h⟩
  · exact .inr ⟨t, q, rfl, h8, h9⟩
theorem rows57 {NT : List UInt8 → Nat → Prop} (N : NumIO NT) (B : Nat) (w : World) (hg : Glob B w) (s : ByteArray) (hs : s.size ≤ 1099511627776) (Bw : Nat) (hBw : B ≤ Bw) :
    ∀ ps W1 done (p : ByteArray) rest w1, Parts s false ps → done ++ bs p :: rest = ps → p.size ≤ s.size → Below w.heap.size w W1 → RowInv 52 86 RowIt (RingR NT) Bw W1 done w1 →
      Calls Tryz.prog 57 (#[.string p] ++ #[.pointer (some ⟨Bw, 0, none⟩)]) w1 fun e w' => (e = .returned .nilIface ∧ RowInv 52 86 RowIt (RingR NT) Bw W1 (done ++ [bs p]) w') ∨ (∃ t q, e = .returned (.iface t q) ∧ RowBad (RingBad NT) Bw W1 (bs p) w') := by
  rintro ps W1 done p rest w1 h1 h2 h3 h4 ⟨v, xs, h5, hc⟩
  have h6 := h1.len
  have h7 := congrArg List.length h2
  rw [List.length_append, List.length_cons] at h7
  refine (add57 N B _ _ Bw W1 w1 done v xs p ((hg.up h4).below (hc.bel.below (Nat.le_trans hg.size h4.size) hBw)) (by omega) (by omega) hc.bel.size h5 hc).mono ?_
  rintro e w' (⟨rfl, v', xs', h⟩ | ⟨t, q, rfl, h8, h9⟩)
  · exact .inl ⟨rfl, v', xs', h5, h⟩
  · exact .inr ⟨t, q, rfl, h8, h9⟩
theorem rows52 {NT : List UInt8 → Nat → Prop} (N : NumIO NT) (B : Nat) (w : World) (hg : Glob B w) (s : ByteArray) (hs : s.size ≤ 1099511627776) (Bw : Nat) (hBw : B ≤ Bw) :
    ∀ ps W1 done (p : ByteArray) rest w1, Parts s false ps → done ++ bs p :: rest = ps → p.size ≤ s.size → Below w.heap.size w W1 → RowInv 56 50 RowIt (RingR NT) Bw W1 done w1 →
      Calls Tryz.prog 52 (#[.string p] ++ #[.pointer (some ⟨Bw, 0, none⟩)]) w1 fun e w' => (e = .returned .nilIface ∧ RowInv 56 50 RowIt (RingR NT) Bw W1 (done ++ [bs p]) w') ∨ (∃ t q, e = .returned (.iface t q) ∧ RowBad (RingBad NT) Bw W1 (bs p) w') := by
  rintro ps W1 done p rest w1 h1 h2 h3 h4 ⟨v, xs, h5, hc⟩
  have h6 := h1.len
  have h7 := congrArg List.length h2
  rw [List.length_append, List.length_cons] at h7
  refine (add52 N B _ _ Bw W1 w1 done v xs p ((hg.up h4).below (hc.bel.below (Nat.le_trans hg.size h4.size) hBw)) (by omega) (by omega) hc.bel.size h5 hc).mono ?_
  rintro e w' (⟨rfl, v', xs', h⟩ | ⟨t, q, rfl, h8, h9⟩)
  · exact .inl ⟨rfl, v', xs', h5, h⟩
  · exact .inr ⟨t, q, rfl, h8, h9⟩
theorem split48 {NT : List UInt8 → Nat → Prop} (N : NumIO NT) (B : Nat) (w : World) (hg : Glob B w) (s : ByteArray) (hs : s.size ≤ 1099511627776) :
    Calls Tryz.prog 46 #[.string s, .bool false, .func (.func 47) #[] #[.pointer (some ⟨w.heap.size, 0, none⟩)], .func (.func 48) #[] #[.pointer (some ⟨w.heap.size, 0, none⟩)]] (w.alloc (.cells #[.slice none 0 0] 52)) fun e w' =>
      ∃ W1 ps, Below w.heap.size w W1 ∧ Parts s false ps ∧ ((e = .returned .nilIface ∧ RowInv 52 86 RowIt (RingR NT) w.heap.size W1 ps w') ∨ (∃ t q, e = .returned (.iface t q) ∧ ∃ p ∈ ps, RowBad (RingBad NT) w.heap.size W1 p w')) := by
  refine (splitR_any 47 48 #[.pointer (some ⟨w.heap.size, 0, none⟩)] #[.pointer (some ⟨w.heap.size, 0, none⟩)] ent47 ent48 s false (w.alloc (.cells #[.slice none 0 0] 52)) hs (RowInv 52 86 RowIt (RingR NT) w.heap.size) (RowBad (RingBad NT) w.heap.size)
    (fun n W1 h1 h2 h3 => set47 w.heap.size W1 n h1 (by omega) (Below.blkNil h3 (Blk.new w 52 #[.slice none 0 0]))) (rows48 N B _ (hg.up (below_alloc w _)) s hs w.heap.size hg.size) (row_frame (by simp))).mono ?_
  rintro e w' ⟨W1, ps, h1, h2, h3⟩
  exact ⟨W1, ps, (below_alloc w _).trans (h1.mono (by simp)), h2, h3⟩
theorem split57 {NT : List UInt8 → Nat → Prop} (N : NumIO NT) (B : Nat) (w : World) (hg : Glob B w) (s : ByteArray) (hs : s.size ≤ 1099511627776) :
    Calls Tryz.prog 46 #[.string s, .bool false, .func (.func 56) #[] #[.pointer (some ⟨w.heap.size, 0, none⟩)], .func (.func 57) #[] #[.pointer (some ⟨w.heap.size, 0, none⟩)]] (w.alloc (.cells #[.slice none 0 0] 52)) fun e w' =>
      ∃ W1 ps, Below w.heap.size w W1 ∧ Parts s false ps ∧ ((e = .returned .nilIface ∧ RowInv 52 86 RowIt (RingR NT) w.heap.size W1 ps w') ∨ (∃ t q, e = .returned (.iface t q) ∧ ∃ p ∈ ps, RowBad (RingBad NT) w.heap.size W1 p w')) := by
  refine (splitR_any 56 57 #[.pointer (some ⟨w.heap.size, 0, none⟩)] #[.pointer (some ⟨w.heap.size, 0, none⟩)] ent56 ent57 s false (w.alloc (.cells #[.slice none 0 0] 52)) hs (RowInv 52 86 RowIt (RingR NT) w.heap.size) (RowBad (RingBad NT) w.heap.size)
    (fun n W1 h1 h2 h3 => set56 w.heap.size W1 n h1 (by omega) (Below.blkNil h3 (Blk.new w 52 #[.slice none 0 0]))) (rows57 N B _ (hg.up (below_alloc w _)) s hs w.heap.size hg.size) (row_frame (by simp))).mono ?_
  rintro e w' ⟨W1, ps, h1, h2, h3⟩
  exact ⟨W1, ps, (below_alloc w _).trans (h1.mono (by simp)), h2, h3⟩
theorem split52 {NT : List UInt8 → Nat → Prop} (N : NumIO NT) (B : Nat) (w : World) (hg : Glob B w) (s : ByteArray) (hs : s.size ≤ 1099511627776) :
    Calls Tryz.prog 46 #[.string s, .bool false, .func (.func 51) #[] #[.pointer (some ⟨w.heap.size, 0, none⟩)], .func (.func 52) #[] #[.pointer (some ⟨w.heap.size, 0, none⟩)]] (w.alloc (.cells #[.slice none 0 0] 56)) fun e w' =>
      ∃ W1 ps, Below w.heap.size w W1 ∧ Parts s false ps ∧ ((e = .returned .nilIface ∧ RowInv 56 50 RowIt (RingR NT) w.heap.size W1 ps w') ∨ (∃ t q, e = .returned (.iface t q) ∧ ∃ p ∈ ps, RowBad (RingBad NT) w.heap.size W1 p w')) := by
  refine (splitR_any 51 52 #[.pointer (some ⟨w.heap.size, 0, none⟩)] #[.pointer (some ⟨w.heap.size, 0, none⟩)] ent51 ent52 s false (w.alloc (.cells #[.slice none 0 0] 56)) hs (RowInv 56 50 RowIt (RingR NT) w.heap.size) (RowBad (RingBad NT) w.heap.size)
    (fun n W1 h1 h2 h3 => set51 w.heap.size W1 n h1 (by omega) (Below.blkNil h3 (Blk.new w 56 #[.slice none 0 0]))) (rows52 N B _ (hg.up (below_alloc w _)) s hs w.heap.size hg.size) (row_frame (by simp))).mono ?_
  rintro e w' ⟨W1, ps, h1, h2, h3⟩
  exact ⟨W1, ps, (below_alloc w _).trans (h1.mono (by simp)), h2, h3⟩

def PolyIt (c : List Value) (rs : List (List (Nat × Nat))) (w : World) : Prop := ∃ u, c = [u] ∧ IsSl 1 RowIt u rs w
/-- The text of the rings of a polygon, in its brackets. -/
def PolyR (NT : List UInt8 → Nat → Prop) (l : List UInt8) (rs : List (List (Nat × Nat))) : Prop := ∃ t ps, BrOk (tx l) t ∧ Parts t false ps ∧ All2 (RingR NT) ps rs
def PolyBad (NT : List UInt8 → Nat → Prop) (l : List UInt8) : Prop := BrBad (tx l) ∨ ∃ t ps, BrOk (tx l) t ∧ Parts t false ps ∧ ∃ p ∈ ps, RingBad NT p

set_option maxHeartbeats 2000000 in
set_option maxRecDepth 100000 in
theorem add55 {NT : List UInt8 → Nat → Prop} (N : NumIO NT) (B lim base Bw : Nat) (w0 w : World) (parts : List (List UInt8)) (v : Value) (xs : List (List (List (Nat × Nat)))) (s0 : ByteArray) (hg : Glob B w) (hs : s0.size ≤ 1099511627776)
    (hl : parts.length ≤ 1099511627776) (hbw : base ≤ w.heap.size) (hBb : Bw < base) (hc : Cap 58 52 1 PolyIt (PolyR NT) lim base Bw w0 parts v xs w) :
    Calls Tryz.prog 55 #[.string s0, .pointer (some ⟨Bw, 0, none⟩)] w fun e w' => (e = .returned .nilIface ∧ ∃ v' xs', Cap 58 52 1 PolyIt (PolyR NT) lim base Bw w0 (parts ++ [bs s0]) v' xs' w') ∨
      (∃ t q, e = .returned (.iface t q) ∧ PolyBad NT (bs s0) ∧ Fr lim Bw w0 w') := by
  obtain ⟨i0, hi, hz0, hz1, hz2⟩ := info_parts info52
  have hpl : xs.length ≤ 1099511627776 := by rw [hc.all.len]; exact hl
  have hfw := Nat.le_trans hc.hfb hbw
  have hgs := hg.size
  obtain ⟨css, hb0⟩ := hc.built
  have hmf : ∀ (fn : Fn) (first cap : Array Value) (w : World), (Instr.makeFunc fn first cap).run Tryz.prog w = .ok (.func fn first cap) w := fun _ _ _ _ => rfl
  replace hg := hide hg
  replace hc := hide hc
  replace hb0 := hide hb0
  go_enter Tryz.func55, Tryz.ntmps55
  go_wp2_with (first
    | (go_at_call 40; (with_reducible refine (brackets_any B s0 _ hg.out hs).mono ?_); rintro e wb ⟨⟨s, ⟨rfl, hbo⟩ | ⟨ty, q, rfl, hbb⟩⟩, hbelb⟩; all_goals (have hcb := hide (hc.out.below hbelb hfw); have hb := hide (hb0.out.below hbelb); have hszb := hbelb.size; (try have hsl := hbo.1); replace hbelb := hide hbelb))
    | (go_at_call 46; (with_reducible refine (split57 N B wb (hg.out.up hbelb.out) s (by omega)).mono ?_); rintro e w2 ⟨W1, ps, hW1, hps, ⟨rfl, vi, rs, hbi, hci⟩ | ⟨t, q, rfl, p, hp, hpb, hfi⟩⟩; (have hsW := hW1.size); (have hbel2 := hide (hW1.trans (hci.bel.below hsW (Nat.le_refl _)))); (obtain ⟨ai, ci, rfl⟩ := own_shape hci.built.choose_spec.2.2.1); (have hc1 := hci.blk.cell 0); (have hB2 := hcb.out.blk.below hbel2.out hcb.out.blk.lt); (have hcc := hB2.cell 0); (have hcf := hB2.frozen 0); (simp only [List.getElem?_toArray, List.getElem?_cons_zero] at hcc hc1); (have hlt := hB2.lt); (have hown := hide (hb.out.below hbel2.out).2.2.1); (have hsz2 := hbel2.out.size); (replace hB2 := hide hB2); (replace hci := hide hci))
    | (at_builtin; refine wpList_append_at _ rfl _ _ 58 rfl base 52 i0 (.slice none 0 0) 1 24 under58 hi hz0 hz1 hz2 rfl (by decide) _ _ _ rfl (hown.out.alloc _) ⟨w2.heap.size, 0, none⟩ 1 1 [.slice ai rs.length ci] rfl (by decide) rfl (new_at w2 52 #[.slice ai rs.length ci] _ rfl) (by simp [Value.oneCell']) (by unfold maxLen; omega) (by omega) (by simp; omega) ?_; intro v' w3 hown' hgrow hv'; obtain ⟨ao, cp, rfl⟩ := own_shape hown'; have hB3 := (hB2.out.alloc _).grown hgrow (own_ne hb.out hcb.out.blk (by decide)); have hcc3 := hB3.cell 0; have hcf3 := hB3.frozen 0; simp only [List.getElem?_toArray, List.getElem?_cons_zero] at hcc3; clear hB3))
  · go_ret
    refine .inl ⟨rfl, _, xs ++ [rs], hcb.out.push (by decide) hb.out (hbel2.out.trans ((below_alloc w2 _).mono hsz2)) ?_ rfl (by omega) hown' hgrow hv' (.inr hBb) ⟨s, ps, by rw [tx_bs]; exact hbo, hps, hci.out.all⟩⟩
    exact ((hci.out.built.sup.mono hsW).imp fun w h => ⟨_, rfl, h⟩).below (below_alloc w2 _)
  · go_ret
    exact .inr ⟨t, q, rfl, .inr ⟨s, ps, by rw [tx_bs]; exact hbo, hps, p, hp, hpb⟩, hcb.out.bel.trans (Fr.of (hW1.trans (hfi.below hW1.size (Nat.le_refl _))) (by omega))⟩
  · go_ret
    exact .inr ⟨ty, q, rfl, .inl (by rw [tx_bs]; exact hbb), hcb.out.bel⟩
theorem ent55 : ∀ (args : Array Value) (w : World), (callFunc 55 args).run Tryz.prog w = .ok (.enter 55 args) w := enters_of Tryz.func55 (by kernel_rfl) rfl
theorem rows55 {NT : List UInt8 → Nat → Prop} (N : NumIO NT) (B : Nat) (w : World) (hg : Glob B w) (s : ByteArray) (hs : s.size ≤ 1099511627776) (Bw : Nat) (hBw : B ≤ Bw) :
    ∀ ps W1 done (p : ByteArray) rest w1, Parts s true ps → done ++ bs p :: rest = ps → p.size ≤ s.size → Below w.heap.size w W1 → RowInv 58 52 PolyIt (PolyR NT) Bw W1 done w1 →
      Calls Tryz.prog 55 (#[.string p] ++ #[.pointer (some ⟨Bw, 0, none⟩)]) w1 fun e w' => (e = .returned .nilIface ∧ RowInv 58 52 PolyIt (PolyR NT) Bw W1 (done ++ [bs p]) w') ∨ (∃ t q, e = .returned (.iface t q) ∧ RowBad (PolyBad NT) Bw W1 (bs p) w') := by
  rintro ps W1 done p rest w1 h1 h2 h3 h4 ⟨v, xs, h5, hc⟩
  have h6 := h1.len
  have h7 := congrArg List.length h2
  rw [List.length_append, List.length_cons] at h7
  refine (add55 N B _ _ Bw W1 w1 done v xs p ((hg.up h4).below (hc.bel.below (Nat.le_trans hg.size h4.size) hBw)) (by omega) (by omega) hc.bel.size h5 hc).mono ?_
  rintro e w' (⟨rfl, v', xs', h⟩ | ⟨t, q, rfl, h8, h9⟩)
  · exact .inl ⟨rfl, v', xs', h5, h⟩
  · exact .inr ⟨t, q, rfl, h8, h9⟩
theorem split55 {NT : List UInt8 → Nat → Prop} (N : NumIO NT) (B : Nat) (w : World) (hg : Glob B w) (s : ByteArray) (hs : s.size ≤ 1099511627776) :
    Calls Tryz.prog 46 #[.string s, .bool true, .func (.func 54) #[] #[.pointer (some ⟨w.heap.size, 0, none⟩)], .func (.func 55) #[] #[.pointer (some ⟨w.heap.size, 0, none⟩)]] (w.alloc (.cells #[.slice none 0 0] 58)) fun e w' =>
      ∃ W1 ps, Below w.heap.size w W1 ∧ Parts s true ps ∧ ((e = .returned .nilIface ∧ RowInv 58 52 PolyIt (PolyR NT) w.heap.size W1 ps w') ∨ (∃ t q, e = .returned (.iface t q) ∧ ∃ p ∈ ps, RowBad (PolyBad NT) w.heap.size W1 p w')) := by
  refine (splitR_any 54 55 #[.pointer (some ⟨w.heap.size, 0, none⟩)] #[.pointer (some ⟨w.heap.size, 0, none⟩)] ent54 ent55 s true (w.alloc (.cells #[.slice none 0 0] 58)) hs (RowInv 58 52 PolyIt (PolyR NT) w.heap.size) (RowBad (PolyBad NT) w.heap.size)
    (fun n W1 h1 h2 h3 => set54 w.heap.size W1 n h1 (by omega) (Below.blkNil h3 (Blk.new w 58 #[.slice none 0 0]))) (rows55 N B _ (hg.up (below_alloc w _)) s hs w.heap.size hg.size) (row_frame (by simp))).mono ?_
  rintro e w' ⟨W1, ps, h1, h2, h3⟩
  exact ⟨W1, ps, (below_alloc w _).trans (h1.mono (by simp)), h2, h3⟩
end Go.Proofs.YtgmbjdoifkjdhaaGreatDoor
