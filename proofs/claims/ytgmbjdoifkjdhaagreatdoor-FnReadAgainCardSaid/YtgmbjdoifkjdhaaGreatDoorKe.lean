/- Captured variables that hold a row. The closures that append one point. The closure of a multipoint, and the closures that make a row. -/
import Derived.Test.YtgmbjdoifkjdhaaGreatDoorKd
section
namespace Go.Proofs.YtgmbjdoifkjdhaaGreatDoor
open Go.RowKit

inductive All2 {X : Type} (R : List UInt8 → X → Prop) : List (List UInt8) → List X → Prop
  | nil : All2 R [] []
  | cons {p : List UInt8} {x : X} {ps : List (List UInt8)} {xs : List X} (h : R p x) (t : All2 R ps xs) : All2 R (p :: ps) (x :: xs)
theorem All2.snoc {X : Type} {R : List UInt8 → X → Prop} {ps : List (List UInt8)} {xs : List X} (h : All2 R ps xs) {p : List UInt8} {x : X} (hp : R p x) : All2 R (ps ++ [p]) (xs ++ [x]) := by
  induction h with
  | nil => exact .cons hp .nil
  | cons h1 _ ih => exact .cons h1 ih
theorem All2.len {X : Type} {R : List UInt8 → X → Prop} {ps : List (List UInt8)} {xs : List X} (h : All2 R ps xs) : xs.length = ps.length := by
  induction h with
  | nil => rfl
  | cons _ _ ih => rw [List.length_cons, List.length_cons, ih]

theorem info47 : (Tryz.prog.info? 47).map (fun i => (i.zero, i.size, i.bytes)) = some (some (.agg #[.float .f64 0, .float .f64 0]), 2, 16) := by kernel_rfl
theorem under50 : Tryz.prog.underlying 50 = some (.slice 47) := by kernel_rfl
theorem under86 : Tryz.prog.underlying 86 = some (.slice 47) := by kernel_rfl
theorem under54 : Tryz.prog.underlying 54 = some (.slice 47) := by kernel_rfl

def PtIt (c : List Value) (p : Nat × Nat) (_ : World) : Prop := c = [.float .f64 p.1, .float .f64 p.2]

theorem own_ne {X : Type} {base e size : Nat} {It : List Value → X → World → Prop} {v : Value} {xs : List X} {css : List (List Value)} {w : World} (h : BuiltC base e size It v xs css w) {Bw T : Nat} {cs : Array Value} (hb : Blk w Bw T cs) (hT : T ≠ e) : some Bw ≠ v.ownBlock := by
  intro he
  rcases h.2.2.1.2 with ⟨rfl, _⟩ | ⟨g, cap, cur, rfl, _, hg, _⟩
  · simp [Value.ownBlock] at he
  · simp [Value.ownBlock] at he
    subst he
    unfold Blk at hb
    rw [hg] at hb
    injection hb with hb
    injection hb with _ hb _
    exact hT hb.symm
theorem Blk.grown {w w' : World} {g : Nat} {t : TypeId} {cs : Array Value} {row : Option Nat} (h : Blk w g t cs) (hg : w.grownBy w' row) (hne : some g ≠ row) : Blk w' g t cs := (hg.block g h.lt hne).trans h
theorem setCell_other (w : World) (b : Nat) (u : Value) (g : Nat) (h : g ≠ b) : (w.setCell ⟨b, 0, none⟩ u).heap[g]? = w.heap[g]? := Below.heap_setCell w ⟨b, 0, none⟩ u g h
theorem Built.setFar {X : Type} {base e size : Nat} {It : List Value → X → World → Prop} {v : Value} {xs : List X} {w : World} (h : Built base e size It v xs w) {Bw : Nat} (hne : some Bw ≠ v.ownBlock)
    (hs : (∀ c x w w', It c x w → It c x w') ∨ Bw < base) (u : Value) : Built base e size It v xs (w.setCell ⟨Bw, 0, none⟩ u) := by
  obtain ⟨css, h1, h2, h3, F, h4, h5⟩ := h
  have ho : (w.setCell ⟨Bw, 0, none⟩ u).ownsRow base e size v xs.length css.flatten := by
    refine ⟨h3.1, ?_⟩
    rcases h3.2 with hn | ⟨g, cap, cur, rfl, hb, hgg, rest⟩
    · exact .inl hn
    · refine .inr ⟨g, cap, cur, rfl, hb, ?_, rest⟩
      rw [setCell_other _ _ _ _ (fun he => hne (by rw [he]; rfl))]
      exact hgg
  rcases hs with hs | hs
  · exact ⟨css, h1, h2, ho, [], by simp, fun w' _ i c x hc hx => hs c x w w' (h5 w (fun _ _ => rfl) i c x hc hx)⟩
  · refine ⟨css, h1, h2, ho, F, fun g hg => ⟨(h4 g hg).1, by rw [size_set]; exact (h4 g hg).2.1, (h4 g hg).2.2⟩, fun w' hw => h5 w' fun g hg => ?_⟩
    rw [hw g hg, setCell_other _ _ _ _ (fun he => by have := (h4 g hg).1; omega)]

/-- Below lim nothing but the block Bw has changed. -/
structure Fr (lim Bw : Nat) (w w' : World) : Prop where
  os : w'.os = w.os
  tape : w'.tape = w.tape
  output : w'.output = w.output
  size : w.heap.size ≤ w'.heap.size
  block : ∀ g, g < lim → g ≠ Bw → w'.heap[g]? = w.heap[g]?
theorem Fr.refl (lim Bw : Nat) (w : World) : Fr lim Bw w w := ⟨rfl, rfl, rfl, Nat.le_refl _, fun _ _ _ => rfl⟩
theorem Fr.trans {lim Bw : Nat} {a b c : World} (h : Fr lim Bw a b) (k : Fr lim Bw b c) : Fr lim Bw a c :=
  ⟨k.os.trans h.os, k.tape.trans h.tape, k.output.trans h.output, Nat.le_trans h.size k.size, fun g hg hne => (k.block g hg hne).trans (h.block g hg hne)⟩
theorem Fr.of {lim Bw B : Nat} {w w' : World} (h : Below B w w') (hl : lim ≤ B) : Fr lim Bw w w' := ⟨h.os, h.tape, h.output, h.size, fun g hg _ => h.block g (Nat.lt_of_lt_of_le hg hl)⟩
theorem Fr.mono {lim lim' Bw : Nat} {w w' : World} (h : Fr lim Bw w w') (hl : lim' ≤ lim) : Fr lim' Bw w w' := ⟨h.os, h.tape, h.output, h.size, fun g hg hne => h.block g (Nat.lt_of_lt_of_le hg hl) hne⟩
theorem Fr.below {lim Bw B : Nat} {w w' : World} (h : Fr lim Bw w w') (h1 : B ≤ lim) (h2 : B ≤ Bw) : Below B w w' := ⟨h.os, h.tape, h.output, h.size, fun g hg => h.block g (Nat.lt_of_lt_of_le hg h1) (by omega)⟩
theorem Fr.set {lim Bw : Nat} {a w : World} (h : Fr lim Bw a w) (u : Value) : Fr lim Bw a (w.setCell ⟨Bw, 0, none⟩ u) :=
  h.trans ⟨rfl, rfl, rfl, by rw [size_set]; exact Nat.le_refl _, fun g _ hne => setCell_other w Bw u g hne⟩

/-- A captured variable of slice type T holds a row of elements e that the call builds, one element a part. -/
structure Cap {X : Type} (T e size : Nat) (It : List Value → X → World → Prop) (R : List UInt8 → X → Prop) (lim base Bw : Nat) (w0 : World) (parts : List (List UInt8)) (v : Value) (xs : List X) (w : World) : Prop where
  hfb : lim ≤ base
  blk : Blk w Bw T #[v]
  built : Built base e size It v xs w
  all : All2 R parts xs
  bel : Fr lim Bw w0 w

theorem Cap.push {X : Type} {T e size : Nat} {It : List Value → X → World → Prop} {R : List UInt8 → X → Prop} {lim base Bw : Nat} {w0 w w2 w3 : World} {parts : List (List UInt8)} {v v' : Value} {xs : List X} {css : List (List Value)}
    {c : List Value} {x : X} {p : List UInt8} (h : Cap T e size It R lim base Bw w0 parts v xs w) (hT : T ≠ e) (hb : BuiltC base e size It v xs css w) (h12 : Below w.heap.size w w2) (hit : Sup w.heap.size (It c x) w2) (hc : c.length = size)
    (hbase : base ≤ w.heap.size) (hown : w3.ownsRow base e size v' (xs.length + 1) (css.flatten ++ c)) (hg : w2.grownBy w3 v.ownBlock) (hv : v'.ownBlock = v.ownBlock ∨ v'.ownBlock = some w2.heap.size)
    (hs : (∀ c x w w', It c x w → It c x w') ∨ Bw < base) (hp : R p x) : Cap T e size It R lim base Bw w0 (parts ++ [p]) v' (xs ++ [x]) (w3.setCell ⟨Bw, 0, none⟩ v') := by
  obtain ⟨hB, hL⟩ := BuiltC.more hb h12 hit hc hbase hown hg hv
  have hne := own_ne hb h.blk hT
  have hblk2 := h.blk.below h12 h.blk.lt
  have hblk3 := hblk2.grown hg hne
  have hne' : some Bw ≠ v'.ownBlock := by
    rcases hv with hv | hv
    · rw [hv]; exact hne
    · rw [hv]; intro he; injection he with he; have := hblk2.lt; omega
  exact ⟨h.hfb, hblk3.set 0 v', hB.setFar hne' hs v', h.all.snoc hp, (h.bel.trans (Fr.of hL h.hfb)).set v'⟩
end Go.Proofs.YtgmbjdoifkjdhaaGreatDoor
end
section
namespace Go.Proofs.YtgmbjdoifkjdhaaGreatDoor
open Go.RowKit

def PtR (NT : List UInt8 → Nat → Prop) (l : List UInt8) (p : Nat × Nat) : Prop := PtOk NT (tx l) p

theorem own_shape {w : World} {base e size n : Nat} {v : Value} {xs : List Value} (h : w.ownsRow base e size v n xs) : ∃ ao cap, v = .slice ao n cap := by
  rcases h.2 with ⟨rfl, rfl⟩ | ⟨g, cap, cur, rfl, _⟩
  · exact ⟨none, 0, rfl⟩
  · exact ⟨_, _, rfl⟩
set_option maxHeartbeats 1000000 in
set_option maxRecDepth 100000 in
theorem add45 {NT : List UInt8 → Nat → Prop} (N : NumIO NT) (B fr base Bw : Nat) (w0 w : World) (parts : List (List UInt8)) (v : Value) (ps : List (Nat × Nat)) (s : ByteArray) (hg : Glob B w) (hs : s.size ≤ 1099511627776)
    (hl : parts.length ≤ 1099511627776) (hbw : base ≤ w.heap.size) (hc : Cap 50 47 2 PtIt (PtR NT) fr base Bw w0 parts v ps w) :
    Calls Tryz.prog 45 #[.string s, .pointer (some ⟨Bw, 0, none⟩)] w fun e w' => (e = .returned .nilIface ∧ ∃ v' ps', Cap 50 47 2 PtIt (PtR NT) fr base Bw w0 (parts ++ [bs s]) v' ps' w') ∨
      (∃ t q, e = .returned (.iface t q) ∧ PtBad NT s ∧ Fr fr Bw w0 w') := by
  obtain ⟨i0, hi, hz0, hz1, hz2⟩ := info_parts info47
  have hpl : ps.length ≤ 1099511627776 := by rw [hc.all.len]; exact hl
  have hfw := Nat.le_trans hc.hfb hbw
  obtain ⟨css, hb⟩ := hc.built
  have hsf := store_float
  replace hg := hide hg
  replace hc := hide hc
  replace hb := hide hb
  go_enter Tryz.func45, Tryz.ntmps45
  go_wp2_with (first
    | (go_at_call 41; (with_reducible refine (point_any N B s _ hg.out hs).mono ?_); rintro e w1 ⟨⟨⟨x, y⟩, ⟨rfl, hok⟩ | ⟨t, q, rfl, hbad⟩⟩, hbel⟩; all_goals (have hB1 := hc.out.blk.below hbel hc.out.blk.lt; have hcc := hB1.cell 0; have hcf := hB1.frozen 0; simp only [List.getElem?_toArray, List.getElem?_cons_zero] at hcc; have hlt := hB1.lt; have hown := hide (hb.out.below hbel).2.2.1; have hsz := hbel.size; replace hB1 := hide hB1; replace hbel := hide hbel))
    | (at_builtin; refine wpList_append_at _ rfl _ _ 50 rfl base 47 i0 (.agg #[.float .f64 0, .float .f64 0]) 2 16 under50 hi hz0 hz1 hz2 rfl (by decide) _ _ _ rfl ((hown.out.alloc _).alloc _) ⟨w1.heap.size + 1, 0, none⟩ 1 1 [.float .f64 x, .float .f64 y] rfl (by decide) rfl (new_at (w1.alloc _) 47 #[.float .f64 x, .float .f64 y] _ (by simp)) (by simp [Value.oneCell']) (by unfold maxLen; omega) (by omega) (by simp; omega) ?_; intro v' w3 hown' hgrow hv'; obtain ⟨ao, cp, rfl⟩ := own_shape hown'; have hB3 := ((hB1.out.alloc _).alloc _).grown hgrow (own_ne hb.out hc.out.blk (by decide)); have hcc3 := hB3.cell 0; have hcf3 := hB3.frozen 0; simp only [List.getElem?_toArray, List.getElem?_cons_zero] at hcc3; clear hB3))
  · go_ret
    exact .inl ⟨rfl, _, ps ++ [(x, y)], hc.out.push (by decide) hb.out (hbel.out.trans (((below_alloc w1 _).trans ((below_alloc _ _).mono (by simp))).mono hsz)) (Sup.pure rfl) rfl hbw hown' hgrow hv' (.inl fun _ _ _ _ h => h) (by unfold PtR; rw [tx_bs]; exact hok)⟩
  · go_ret
    exact .inr ⟨t, q, rfl, hbad, hc.out.bel.trans (Fr.of (hbel.out.trans ((below_alloc w1 _).mono hsz)) hfw)⟩
set_option maxHeartbeats 1000000 in
set_option maxRecDepth 100000 in
theorem add49 {NT : List UInt8 → Nat → Prop} (N : NumIO NT) (B fr base Bw : Nat) (w0 w : World) (parts : List (List UInt8)) (v : Value) (ps : List (Nat × Nat)) (s : ByteArray) (hg : Glob B w) (hs : s.size ≤ 1099511627776)
    (hl : parts.length ≤ 1099511627776) (hbw : base ≤ w.heap.size) (hc : Cap 86 47 2 PtIt (PtR NT) fr base Bw w0 parts v ps w) :
    Calls Tryz.prog 49 #[.string s, .pointer (some ⟨Bw, 0, none⟩)] w fun e w' => (e = .returned .nilIface ∧ ∃ v' ps', Cap 86 47 2 PtIt (PtR NT) fr base Bw w0 (parts ++ [bs s]) v' ps' w') ∨
      (∃ t q, e = .returned (.iface t q) ∧ PtBad NT s ∧ Fr fr Bw w0 w') := by
  obtain ⟨i0, hi, hz0, hz1, hz2⟩ := info_parts info47
  have hpl : ps.length ≤ 1099511627776 := by rw [hc.all.len]; exact hl
  have hfw := Nat.le_trans hc.hfb hbw
  obtain ⟨css, hb⟩ := hc.built
  have hsf := store_float
  replace hg := hide hg
  replace hc := hide hc
  replace hb := hide hb
  go_enter Tryz.func49, Tryz.ntmps49
  go_wp2_with (first
    | (go_at_call 41; (with_reducible refine (point_any N B s _ hg.out hs).mono ?_); rintro e w1 ⟨⟨⟨x, y⟩, ⟨rfl, hok⟩ | ⟨t, q, rfl, hbad⟩⟩, hbel⟩; all_goals (have hB1 := hc.out.blk.below hbel hc.out.blk.lt; have hcc := hB1.cell 0; have hcf := hB1.frozen 0; simp only [List.getElem?_toArray, List.getElem?_cons_zero] at hcc; have hlt := hB1.lt; have hown := hide (hb.out.below hbel).2.2.1; have hsz := hbel.size; replace hB1 := hide hB1; replace hbel := hide hbel))
    | (at_builtin; refine wpList_append_at _ rfl _ _ 86 rfl base 47 i0 (.agg #[.float .f64 0, .float .f64 0]) 2 16 under86 hi hz0 hz1 hz2 rfl (by decide) _ _ _ rfl ((hown.out.alloc _).alloc _) ⟨w1.heap.size + 1, 0, none⟩ 1 1 [.float .f64 x, .float .f64 y] rfl (by decide) rfl (new_at (w1.alloc _) 47 #[.float .f64 x, .float .f64 y] _ (by simp)) (by simp [Value.oneCell']) (by unfold maxLen; omega) (by omega) (by simp; omega) ?_; intro v' w3 hown' hgrow hv'; obtain ⟨ao, cp, rfl⟩ := own_shape hown'; have hB3 := ((hB1.out.alloc _).alloc _).grown hgrow (own_ne hb.out hc.out.blk (by decide)); have hcc3 := hB3.cell 0; have hcf3 := hB3.frozen 0; simp only [List.getElem?_toArray, List.getElem?_cons_zero] at hcc3; clear hB3))
  · go_ret
    exact .inl ⟨rfl, _, ps ++ [(x, y)], hc.out.push (by decide) hb.out (hbel.out.trans (((below_alloc w1 _).trans ((below_alloc _ _).mono (by simp))).mono hsz)) (Sup.pure rfl) rfl hbw hown' hgrow hv' (.inl fun _ _ _ _ h => h) (by unfold PtR; rw [tx_bs]; exact hok)⟩
  · go_ret
    exact .inr ⟨t, q, rfl, hbad, hc.out.bel.trans (Fr.of (hbel.out.trans ((below_alloc w1 _).mono hsz)) hfw)⟩
set_option maxHeartbeats 1000000 in
set_option maxRecDepth 100000 in
theorem add53 {NT : List UInt8 → Nat → Prop} (N : NumIO NT) (B fr base Bw : Nat) (w0 w : World) (parts : List (List UInt8)) (v : Value) (ps : List (Nat × Nat)) (s : ByteArray) (hg : Glob B w) (hs : s.size ≤ 1099511627776)
    (hl : parts.length ≤ 1099511627776) (hbw : base ≤ w.heap.size) (hc : Cap 50 47 2 PtIt (PtR NT) fr base Bw w0 parts v ps w) :
    Calls Tryz.prog 53 #[.string s, .pointer (some ⟨Bw, 0, none⟩)] w fun e w' => (e = .returned .nilIface ∧ ∃ v' ps', Cap 50 47 2 PtIt (PtR NT) fr base Bw w0 (parts ++ [bs s]) v' ps' w') ∨
      (∃ t q, e = .returned (.iface t q) ∧ PtBad NT s ∧ Fr fr Bw w0 w') := by
  obtain ⟨i0, hi, hz0, hz1, hz2⟩ := info_parts info47
  have hpl : ps.length ≤ 1099511627776 := by rw [hc.all.len]; exact hl
  have hfw := Nat.le_trans hc.hfb hbw
  obtain ⟨css, hb⟩ := hc.built
  have hsf := store_float
  replace hg := hide hg
  replace hc := hide hc
  replace hb := hide hb
  go_enter Tryz.func53, Tryz.ntmps53
  go_wp2_with (first
    | (go_at_call 41; (with_reducible refine (point_any N B s _ hg.out hs).mono ?_); rintro e w1 ⟨⟨⟨x, y⟩, ⟨rfl, hok⟩ | ⟨t, q, rfl, hbad⟩⟩, hbel⟩; all_goals (have hB1 := hc.out.blk.below hbel hc.out.blk.lt; have hcc := hB1.cell 0; have hcf := hB1.frozen 0; simp only [List.getElem?_toArray, List.getElem?_cons_zero] at hcc; have hlt := hB1.lt; have hown := hide (hb.out.below hbel).2.2.1; have hsz := hbel.size; replace hB1 := hide hB1; replace hbel := hide hbel))
    | (at_builtin; refine wpList_append_at _ rfl _ _ 50 rfl base 47 i0 (.agg #[.float .f64 0, .float .f64 0]) 2 16 under50 hi hz0 hz1 hz2 rfl (by decide) _ _ _ rfl ((hown.out.alloc _).alloc _) ⟨w1.heap.size + 1, 0, none⟩ 1 1 [.float .f64 x, .float .f64 y] rfl (by decide) rfl (new_at (w1.alloc _) 47 #[.float .f64 x, .float .f64 y] _ (by simp)) (by simp [Value.oneCell']) (by unfold maxLen; omega) (by omega) (by simp; omega) ?_; intro v' w3 hown' hgrow hv'; obtain ⟨ao, cp, rfl⟩ := own_shape hown'; have hB3 := ((hB1.out.alloc _).alloc _).grown hgrow (own_ne hb.out hc.out.blk (by decide)); have hcc3 := hB3.cell 0; have hcf3 := hB3.frozen 0; simp only [List.getElem?_toArray, List.getElem?_cons_zero] at hcc3; clear hB3))
  · go_ret
    exact .inl ⟨rfl, _, ps ++ [(x, y)], hc.out.push (by decide) hb.out (hbel.out.trans (((below_alloc w1 _).trans ((below_alloc _ _).mono (by simp))).mono hsz)) (Sup.pure rfl) rfl hbw hown' hgrow hv' (.inl fun _ _ _ _ h => h) (by unfold PtR; rw [tx_bs]; exact hok)⟩
  · go_ret
    exact .inr ⟨t, q, rfl, hbad, hc.out.bel.trans (Fr.of (hbel.out.trans ((below_alloc w1 _).mono hsz)) hfw)⟩
set_option maxHeartbeats 1000000 in
set_option maxRecDepth 100000 in
theorem add58 {NT : List UInt8 → Nat → Prop} (N : NumIO NT) (B fr base Bw : Nat) (w0 w : World) (parts : List (List UInt8)) (v : Value) (ps : List (Nat × Nat)) (s : ByteArray) (hg : Glob B w) (hs : s.size ≤ 1099511627776)
    (hl : parts.length ≤ 1099511627776) (hbw : base ≤ w.heap.size) (hc : Cap 86 47 2 PtIt (PtR NT) fr base Bw w0 parts v ps w) :
    Calls Tryz.prog 58 #[.string s, .pointer (some ⟨Bw, 0, none⟩)] w fun e w' => (e = .returned .nilIface ∧ ∃ v' ps', Cap 86 47 2 PtIt (PtR NT) fr base Bw w0 (parts ++ [bs s]) v' ps' w') ∨
      (∃ t q, e = .returned (.iface t q) ∧ PtBad NT s ∧ Fr fr Bw w0 w') := by
  obtain ⟨i0, hi, hz0, hz1, hz2⟩ := info_parts info47
  have hpl : ps.length ≤ 1099511627776 := by rw [hc.all.len]; exact hl
  have hfw := Nat.le_trans hc.hfb hbw
  obtain ⟨css, hb⟩ := hc.built
  have hsf := store_float
  replace hg := hide hg
  replace hc := hide hc
  replace hb := hide hb
  go_enter Tryz.func58, Tryz.ntmps58
  go_wp2_with (first
    | (go_at_call 41; (with_reducible refine (point_any N B s _ hg.out hs).mono ?_); rintro e w1 ⟨⟨⟨x, y⟩, ⟨rfl, hok⟩ | ⟨t, q, rfl, hbad⟩⟩, hbel⟩; all_goals (have hB1 := hc.out.blk.below hbel hc.out.blk.lt; have hcc := hB1.cell 0; have hcf := hB1.frozen 0; simp only [List.getElem?_toArray, List.getElem?_cons_zero] at hcc; have hlt := hB1.lt; have hown := hide (hb.out.below hbel).2.2.1; have hsz := hbel.size; replace hB1 := hide hB1; replace hbel := hide hbel))
    | (at_builtin; refine wpList_append_at _ rfl _ _ 86 rfl base 47 i0 (.agg #[.float .f64 0, .float .f64 0]) 2 16 under86 hi hz0 hz1 hz2 rfl (by decide) _ _ _ rfl ((hown.out.alloc _).alloc _) ⟨w1.heap.size + 1, 0, none⟩ 1 1 [.float .f64 x, .float .f64 y] rfl (by decide) rfl (new_at (w1.alloc _) 47 #[.float .f64 x, .float .f64 y] _ (by simp)) (by simp [Value.oneCell']) (by unfold maxLen; omega) (by omega) (by simp; omega) ?_; intro v' w3 hown' hgrow hv'; obtain ⟨ao, cp, rfl⟩ := own_shape hown'; have hB3 := ((hB1.out.alloc _).alloc _).grown hgrow (own_ne hb.out hc.out.blk (by decide)); have hcc3 := hB3.cell 0; have hcf3 := hB3.frozen 0; simp only [List.getElem?_toArray, List.getElem?_cons_zero] at hcc3; clear hB3))
  · go_ret
    exact .inl ⟨rfl, _, ps ++ [(x, y)], hc.out.push (by decide) hb.out (hbel.out.trans (((below_alloc w1 _).trans ((below_alloc _ _).mono (by simp))).mono hsz)) (Sup.pure rfl) rfl hbw hown' hgrow hv' (.inl fun _ _ _ _ h => h) (by unfold PtR; rw [tx_bs]; exact hok)⟩
  · go_ret
    exact .inr ⟨t, q, rfl, hbad, hc.out.bel.trans (Fr.of (hbel.out.trans ((below_alloc w1 _).mono hsz)) hfw)⟩
end Go.Proofs.YtgmbjdoifkjdhaaGreatDoor
end
section
namespace Go.Proofs.YtgmbjdoifkjdhaaGreatDoor
open Go.RowKit

theorem Cap.below {X : Type} {T e size : Nat} {It : List Value → X → World → Prop} {R : List UInt8 → X → Prop} {fr base Bw : Nat} {w0 w w' : World} {parts : List (List UInt8)} {v : Value} {xs : List X}
    (h : Cap T e size It R fr base Bw w0 parts v xs w) (hb : Below w.heap.size w w') (hf : fr ≤ w.heap.size) : Cap T e size It R fr base Bw w0 parts v xs w' :=
  ⟨h.hfb, h.blk.below hb h.blk.lt, h.built.below hb, h.all, h.bel.trans (Fr.of hb hf)⟩

/-- A member of a multipoint: a point in brackets. -/
def MemR (NT : List UInt8 → Nat → Prop) (l : List UInt8) (p : Nat × Nat) : Prop := ∃ t, BrOk (tx l) t ∧ PtOk NT t p
def MemBad (NT : List UInt8 → Nat → Prop) (l : List UInt8) : Prop := BrBad (tx l) ∨ ∃ t, BrOk (tx l) t ∧ PtBad NT t

set_option maxHeartbeats 1000000 in
set_option maxRecDepth 100000 in
theorem add50 {NT : List UInt8 → Nat → Prop} (N : NumIO NT) (B fr base Bw : Nat) (w0 w : World) (parts : List (List UInt8)) (v : Value) (ps : List (Nat × Nat)) (s0 : ByteArray) (hg : Glob B w) (hs : s0.size ≤ 1099511627776)
    (hl : parts.length ≤ 1099511627776) (hbw : base ≤ w.heap.size) (hc : Cap 54 47 2 PtIt (MemR NT) fr base Bw w0 parts v ps w) :
    Calls Tryz.prog 50 #[.string s0, .pointer (some ⟨Bw, 0, none⟩)] w fun e w' => (e = .returned .nilIface ∧ ∃ v' ps', Cap 54 47 2 PtIt (MemR NT) fr base Bw w0 (parts ++ [bs s0]) v' ps' w') ∨
      (∃ t q, e = .returned (.iface t q) ∧ MemBad NT (bs s0) ∧ Fr fr Bw w0 w') := by
  obtain ⟨i0, hi, hz0, hz1, hz2⟩ := info_parts info47
  have hpl : ps.length ≤ 1099511627776 := by rw [hc.all.len]; exact hl
  have hfw := Nat.le_trans hc.hfb hbw
  obtain ⟨css, hb0⟩ := hc.built
  have hsf := store_float
  replace hg := hide hg
  replace hc := hide hc
  replace hb0 := hide hb0
  go_enter Tryz.func50, Tryz.ntmps50
  go_wp2_with (first
    | (go_at_call 40; (with_reducible refine (brackets_any B s0 _ hg.out hs).mono ?_); rintro e wb ⟨⟨s, ⟨rfl, hbo⟩ | ⟨ty, q, rfl, hbb⟩⟩, hbelb⟩; all_goals (have hcb := hide (hc.out.below hbelb hfw); have hb := hide (hb0.out.below hbelb); have hszb := hbelb.size; (try have hsl := hbo.1); replace hbelb := hide hbelb))
    | (go_at_call 41; (with_reducible refine (point_any N B s wb (hg.out.up hbelb.out) (by omega)).mono ?_); rintro e w1 ⟨⟨⟨x, y⟩, ⟨rfl, hok⟩ | ⟨t, q, rfl, hbad⟩⟩, hbel⟩; all_goals (have hB1 := hcb.out.blk.below hbel hcb.out.blk.lt; have hcc := hB1.cell 0; have hcf := hB1.frozen 0; simp only [List.getElem?_toArray, List.getElem?_cons_zero] at hcc; have hlt := hB1.lt; have hown := hide (hb.out.below hbel).2.2.1; have hsz := hbel.size; replace hB1 := hide hB1; replace hbel := hide hbel))
    | (at_builtin; refine wpList_append_at _ rfl _ _ 54 rfl base 47 i0 (.agg #[.float .f64 0, .float .f64 0]) 2 16 under54 hi hz0 hz1 hz2 rfl (by decide) _ _ _ rfl ((hown.out.alloc _).alloc _) ⟨w1.heap.size + 1, 0, none⟩ 1 1 [.float .f64 x, .float .f64 y] rfl (by decide) rfl (new_at (w1.alloc _) 47 #[.float .f64 x, .float .f64 y] _ (by simp)) (by simp [Value.oneCell']) (by unfold maxLen; omega) (by omega) (by simp; omega) ?_; intro v' w3 hown' hgrow hv'; obtain ⟨ao, cp, rfl⟩ := own_shape hown'; have hB3 := ((hB1.out.alloc _).alloc _).grown hgrow (own_ne hb.out hcb.out.blk (by decide)); have hcc3 := hB3.cell 0; have hcf3 := hB3.frozen 0; simp only [List.getElem?_toArray, List.getElem?_cons_zero] at hcc3; clear hB3))
  · go_ret
    exact .inl ⟨rfl, _, ps ++ [(x, y)], hcb.out.push (by decide) hb.out (hbel.out.trans (((below_alloc w1 _).trans ((below_alloc _ _).mono (by simp))).mono hsz)) (Sup.pure rfl) rfl (by omega) hown' hgrow hv' (.inl fun _ _ _ _ h => h) ⟨s, by rw [tx_bs]; exact hbo, hok⟩⟩
  · go_ret
    exact .inr ⟨t, q, rfl, .inr ⟨s, by rw [tx_bs]; exact hbo, hbad⟩, hcb.out.bel.trans (Fr.of (hbel.out.trans ((below_alloc w1 _).mono hsz)) (by omega))⟩
  · go_ret
    exact .inr ⟨ty, q, rfl, .inl (by rw [tx_bs]; exact hbb), hcb.out.bel⟩
end Go.Proofs.YtgmbjdoifkjdhaaGreatDoor
end
