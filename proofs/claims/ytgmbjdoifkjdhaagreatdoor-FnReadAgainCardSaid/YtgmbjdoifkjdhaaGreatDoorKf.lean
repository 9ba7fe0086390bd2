/- The closures that append a ring or a line. -/
import Derived.Test.YtgmbjdoifkjdhaaGreatDoorKe
namespace Go.Proofs.YtgmbjdoifkjdhaaGreatDoor
open Go.RowKit

theorem Cap.start {X : Type} {T e size : Nat} {It : List Value → X → World → Prop} {R : List UInt8 → X → Prop} {lim base : Nat} {w0 w1 : World} {v : Value} (hown : w1.ownsRow base e size v 0 []) (hlim : lim ≤ base) (hfr : Fr lim w1.heap.size w0 w1) (hl : lim ≤ w1.heap.size) :
    Cap T e size It R lim base w1.heap.size w0 [] v ([] : List X) (w1.alloc (.cells #[v] T)) :=
  ⟨hlim, Blk.new w1 T #[v], (Built.start hown).below (below_alloc w1 _), .nil, hfr.trans (Fr.of (below_alloc w1 _) hl)⟩

def LineInv (T : Nat) (R : List UInt8 → Nat × Nat → Prop) (Bw : Nat) (w0 : World) (done : List (List UInt8)) (w : World) : Prop := ∃ v ps, Cap T 47 2 PtIt R w0.heap.size w0.heap.size Bw w0 done v ps w
theorem LineInv.mk {T : Nat} {R : List UInt8 → Nat × Nat → Prop} {Bw : Nat} {w0 w : World} {done : List (List UInt8)} {v : Value} {ps : List (Nat × Nat)} (h : Cap T 47 2 PtIt R w0.heap.size w0.heap.size Bw w0 done v ps w) : LineInv T R Bw w0 done w := ⟨v, ps, h⟩
def LineBad (NT : List UInt8 → Nat → Prop) (Bw : Nat) (w0 : World) (p : List UInt8) (w : World) : Prop := PtBad NT (tx p) ∧ Fr w0.heap.size Bw w0 w

theorem parts_bound {s : ByteArray} {done : List (List UInt8)} {p : List UInt8} {rest : List (List UInt8)} (h : done ++ p :: rest = commaParts (bs s)) : done.length ≤ s.size := by
  have h1 := congrArg List.length h
  rw [List.length_append, List.length_cons] at h1
  have h2 := commaParts_length (bs s)
  have h3 := commasN_le (bs s)
  rw [bs_len] at h3
  omega

theorem call49 {NT : List UInt8 → Nat → Prop} (N : NumIO NT) (B : Nat) (w0 : World) (hg : Glob B w0) (s : ByteArray) (hs : s.size ≤ 1099511627776) (Bw : Nat) (hBw : B ≤ Bw) :
    ∀ done (p : ByteArray) rest w, done ++ bs p :: rest = commaParts (bs s) → p.size ≤ s.size → LineInv 86 (PtR NT) Bw w0 done w →
      Calls Tryz.prog 49 (#[.string p] ++ #[.pointer (some ⟨Bw, 0, none⟩)]) w fun e w' => (e = .returned .nilIface ∧ LineInv 86 (PtR NT) Bw w0 (done ++ [bs p]) w') ∨ (∃ t q, e = .returned (.iface t q) ∧ LineBad NT Bw w0 (bs p) w') := by
  rintro done p rest w h1 h2 ⟨v, ps, hc⟩
  have hb := parts_bound h1
  refine (add49 N B _ _ Bw w0 w done v ps p (hg.below (hc.bel.below hg.size hBw)) (by omega) (by omega) hc.bel.size hc).mono ?_
  rintro e w' (⟨rfl, h⟩ | ⟨t, q, rfl, h3, h4⟩)
  · exact .inl ⟨rfl, h⟩
  · exact .inr ⟨t, q, rfl, by rw [LineBad, tx_bs]; exact ⟨h3, h4⟩⟩

theorem ent49 : ∀ (args : Array Value) (w : World), (callFunc 49 args).run Tryz.prog w = .ok (.enter 49 args) w := enters_of Tryz.func49 (by kernel_rfl) rfl
theorem info86 : (Tryz.prog.info? 86).map (fun i => (i.zero, i.size, i.bytes)) = some (some (.slice none 0 0), 1, 24) := by kernel_rfl
theorem under52 : Tryz.prog.underlying 52 = some (.slice 86) := by kernel_rfl

def RowIt (c : List Value) (ps : List (Nat × Nat)) (w : World) : Prop := ∃ u, c = [u] ∧ IsSl 2 PtIt u ps w
/-- The text of a ring, in its brackets. -/
def RingR (NT : List UInt8 → Nat → Prop) (l : List UInt8) (ps : List (Nat × Nat)) : Prop := ∃ t, BrOk (tx l) t ∧ All2 (PtR NT) (commaParts (bs t)) ps
def RingBad (NT : List UInt8 → Nat → Prop) (l : List UInt8) : Prop := BrBad (tx l) ∨ ∃ t, BrOk (tx l) t ∧ ∃ p ∈ commaParts (bs t), PtBad NT (tx p)

set_option maxHeartbeats 1000000 in
set_option maxRecDepth 100000 in
theorem add48 {NT : List UInt8 → Nat → Prop} (N : NumIO NT) (B lim base Bw : Nat) (w0 w : World) (parts : List (List UInt8)) (v : Value) (xs : List (List (Nat × Nat))) (s0 : ByteArray) (hg : Glob B w) (hs : s0.size ≤ 1099511627776)
    (hl : parts.length ≤ 1099511627776) (hbw : base ≤ w.heap.size) (hBb : Bw < base) (hc : Cap 52 86 1 RowIt (RingR NT) lim base Bw w0 parts v xs w) :
    Calls Tryz.prog 48 #[.string s0, .pointer (some ⟨Bw, 0, none⟩)] w fun e w' => (e = .returned .nilIface ∧ ∃ v' xs', Cap 52 86 1 RowIt (RingR NT) lim base Bw w0 (parts ++ [bs s0]) v' xs' w') ∨
      (∃ t q, e = .returned (.iface t q) ∧ RingBad NT (bs s0) ∧ Fr lim Bw w0 w') := by
  obtain ⟨i0, hi, hz0, hz1, hz2⟩ := info_parts info86
  obtain ⟨j0, hj, hy0, hy1, hy2⟩ := info_parts info47
  have hpl : xs.length ≤ 1099511627776 := by rw [hc.all.len]; exact hl
  have hfw := Nat.le_trans hc.hfb hbw
  have hgs := hg.size
  obtain ⟨css, hb0⟩ := hc.built
  have hmf : ∀ (fn : Fn) (first cap : Array Value) (w : World), (Instr.makeFunc fn first cap).run Tryz.prog w = .ok (.func fn first cap) w := fun _ _ _ _ => rfl
  replace hg := hide hg
  replace hc := hide hc
  replace hb0 := hide hb0
  go_enter Tryz.func48, Tryz.ntmps48
  go_wp2_with (first
    | (go_at_call 40; (with_reducible refine (brackets_any B s0 _ hg.out hs).mono ?_); rintro e wb ⟨⟨s, ⟨rfl, hbo⟩ | ⟨ty, q, rfl, hbb⟩⟩, hbelb⟩; all_goals (have hcb := hide (hc.out.below hbelb hfw); have hb := hide (hb0.out.below hbelb); have hszb := hbelb.size; (try have hsl := hbo.1); replace hbelb := hide hbelb))
    | (go_at_call 43; (with_reducible refine (commas_any s wb (by omega)).mono ?_); rintro e w' ⟨rfl, rfl⟩; have hcl := commasN_le (bs s); rw [bs_len] at hcl)
    | (at_make; refine wpList_make_own _ rfl _ _ 86 rfl wb.heap.size 47 j0 (.agg #[.float .f64 0, .float .f64 0]) 2 under86 hj hy0 hy1 .i64 .i64 _ (commasN (bs s) + 1) rfl rfl (by omega) (by rw [hy2]; omega) (by unfold maxLen; omega) (Nat.le_refl _) ?_; intro w1 hown1 hgrow1; have hsz1 := hgrow1.size; have hst := hide (LineInv.mk (Cap.start (T := 86) (It := PtIt) (R := PtR NT) hown1 (Nat.le_refl _) (Fr.of ((Below.refl wb.heap.size wb).grown hgrow1 (Nat.le_refl _) (by simp)) (Nat.le_refl _)) hsz1)); clear hown1 hgrow1)
    | (go_at_call 44; (with_reducible refine (splitComma_any 49 #[.pointer (some ⟨w1.heap.size, 0, none⟩)] ent49 s _ (by omega) (LineInv 86 (PtR NT) w1.heap.size wb) (LineBad NT w1.heap.size wb) (call49 N B wb (hg.out.up hbelb.out) s (by omega) w1.heap.size (by omega)) hst.out).mono ?_); rintro e w2 (⟨rfl, vi, pts, hci⟩ | ⟨t, q, rfl, p, hp, hpb, hfi⟩); (have hbel2 := hci.bel.below (Nat.le_refl _) hsz1); (obtain ⟨ai, ci, rfl⟩ := own_shape hci.built.choose_spec.2.2.1); (have hc1 := hci.blk.cell 0); (have hB2 := hcb.out.blk.below hbel2 hcb.out.blk.lt); (have hcc := hB2.cell 0); (have hcf := hB2.frozen 0); (simp only [List.getElem?_toArray, List.getElem?_cons_zero] at hcc hc1); (have hlt := hB2.lt); (have hown := hide (hb.out.below hbel2).2.2.1); (have hsz2 := hbel2.size); (replace hB2 := hide hB2); (replace hbel2 := hide hbel2); (replace hci := hide hci))
    | (at_builtin; refine wpList_append_at _ rfl _ _ 52 rfl base 86 i0 (.slice none 0 0) 1 24 under52 hi hz0 hz1 hz2 rfl (by decide) _ _ _ rfl (hown.out.alloc _) ⟨w2.heap.size, 0, none⟩ 1 1 [.slice ai pts.length ci] rfl (by decide) rfl (new_at w2 86 #[.slice ai pts.length ci] _ rfl) (by simp [Value.oneCell']) (by unfold maxLen; omega) (by omega) (by simp; omega) ?_; intro v' w3 hown' hgrow hv'; obtain ⟨ao, cp, rfl⟩ := own_shape hown'; have hB3 := (hB2.out.alloc _).grown hgrow (own_ne hb.out hcb.out.blk (by decide)); have hcc3 := hB3.cell 0; have hcf3 := hB3.frozen 0; simp only [List.getElem?_toArray, List.getElem?_cons_zero] at hcc3; clear hB3))
  · go_ret
    refine .inl ⟨rfl, _, xs ++ [pts], hcb.out.push (by decide) hb.out (hbel2.out.trans ((below_alloc w2 _).mono hsz2)) ?_ rfl (by omega) hown' hgrow hv' (.inr hBb) ⟨s, by rw [tx_bs]; exact hbo, hci.out.all⟩⟩
    exact (hci.out.built.sup.imp fun w h => ⟨_, rfl, h⟩).below (below_alloc w2 _)
  · go_ret
    exact .inr ⟨t, q, rfl, .inr ⟨s, by rw [tx_bs]; exact hbo, p, hp, hpb⟩, hcb.out.bel.trans (Fr.of (hfi.below (Nat.le_refl _) hsz1) (by omega))⟩
  · go_ret
    exact .inr ⟨ty, q, rfl, .inl (by rw [tx_bs]; exact hbb), hcb.out.bel⟩
theorem info50 : (Tryz.prog.info? 50).map (fun i => (i.zero, i.size, i.bytes)) = some (some (.slice none 0 0), 1, 24) := by kernel_rfl
theorem under56 : Tryz.prog.underlying 56 = some (.slice 50) := by kernel_rfl
theorem call53 {NT : List UInt8 → Nat → Prop} (N : NumIO NT) (B : Nat) (w0 : World) (hg : Glob B w0) (s : ByteArray) (hs : s.size ≤ 1099511627776) (Bw : Nat) (hBw : B ≤ Bw) :
    ∀ done (p : ByteArray) rest w, done ++ bs p :: rest = commaParts (bs s) → p.size ≤ s.size → LineInv 50 (PtR NT) Bw w0 done w →
      Calls Tryz.prog 53 (#[.string p] ++ #[.pointer (some ⟨Bw, 0, none⟩)]) w fun e w' => (e = .returned .nilIface ∧ LineInv 50 (PtR NT) Bw w0 (done ++ [bs p]) w') ∨ (∃ t q, e = .returned (.iface t q) ∧ LineBad NT Bw w0 (bs p) w') := by
  rintro done p rest w h1 h2 ⟨v, ps, hc⟩
  have hb := parts_bound h1
  refine (add53 N B _ _ Bw w0 w done v ps p (hg.below (hc.bel.below hg.size hBw)) (by omega) (by omega) hc.bel.size hc).mono ?_
  rintro e w' (⟨rfl, h⟩ | ⟨t, q, rfl, h3, h4⟩)
  · exact .inl ⟨rfl, h⟩
  · exact .inr ⟨t, q, rfl, by rw [LineBad, tx_bs]; exact ⟨h3, h4⟩⟩

theorem ent53 : ∀ (args : Array Value) (w : World), (callFunc 53 args).run Tryz.prog w = .ok (.enter 53 args) w := enters_of Tryz.func53 (by kernel_rfl) rfl
set_option maxHeartbeats 1000000 in
set_option maxRecDepth 100000 in
theorem add52 {NT : List UInt8 → Nat → Prop} (N : NumIO NT) (B lim base Bw : Nat) (w0 w : World) (parts : List (List UInt8)) (v : Value) (xs : List (List (Nat × Nat))) (s0 : ByteArray) (hg : Glob B w) (hs : s0.size ≤ 1099511627776)
    (hl : parts.length ≤ 1099511627776) (hbw : base ≤ w.heap.size) (hBb : Bw < base) (hc : Cap 56 50 1 RowIt (RingR NT) lim base Bw w0 parts v xs w) :
    Calls Tryz.prog 52 #[.string s0, .pointer (some ⟨Bw, 0, none⟩)] w fun e w' => (e = .returned .nilIface ∧ ∃ v' xs', Cap 56 50 1 RowIt (RingR NT) lim base Bw w0 (parts ++ [bs s0]) v' xs' w') ∨
      (∃ t q, e = .returned (.iface t q) ∧ RingBad NT (bs s0) ∧ Fr lim Bw w0 w') := by
  obtain ⟨i0, hi, hz0, hz1, hz2⟩ := info_parts info50
  obtain ⟨j0, hj, hy0, hy1, hy2⟩ := info_parts info47
  have hpl : xs.length ≤ 1099511627776 := by rw [hc.all.len]; exact hl
  have hfw := Nat.le_trans hc.hfb hbw
  have hgs := hg.size
  obtain ⟨css, hb0⟩ := hc.built
  have hmf : ∀ (fn : Fn) (first cap : Array Value) (w : World), (Instr.makeFunc fn first cap).run Tryz.prog w = .ok (.func fn first cap) w := fun _ _ _ _ => rfl
  replace hg := hide hg
  replace hc := hide hc
  replace hb0 := hide hb0
  go_enter Tryz.func52, Tryz.ntmps52
  go_wp2_with (first
    | (go_at_call 40; (with_reducible refine (brackets_any B s0 _ hg.out hs).mono ?_); rintro e wb ⟨⟨s, ⟨rfl, hbo⟩ | ⟨ty, q, rfl, hbb⟩⟩, hbelb⟩; all_goals (have hcb := hide (hc.out.below hbelb hfw); have hb := hide (hb0.out.below hbelb); have hszb := hbelb.size; (try have hsl := hbo.1); replace hbelb := hide hbelb))
    | (go_at_call 43; (with_reducible refine (commas_any s wb (by omega)).mono ?_); rintro e w' ⟨rfl, rfl⟩; have hcl := commasN_le (bs s); rw [bs_len] at hcl)
    | (at_make; refine wpList_make_own _ rfl _ _ 50 rfl wb.heap.size 47 j0 (.agg #[.float .f64 0, .float .f64 0]) 2 under50 hj hy0 hy1 .i64 .i64 _ (commasN (bs s) + 1) rfl rfl (by omega) (by rw [hy2]; omega) (by unfold maxLen; omega) (Nat.le_refl _) ?_; intro w1 hown1 hgrow1; have hsz1 := hgrow1.size; have hst := hide (LineInv.mk (Cap.start (T := 50) (It := PtIt) (R := PtR NT) hown1 (Nat.le_refl _) (Fr.of ((Below.refl wb.heap.size wb).grown hgrow1 (Nat.le_refl _) (by simp)) (Nat.le_refl _)) hsz1)); clear hown1 hgrow1)
    | (go_at_call 44; (with_reducible refine (splitComma_any 53 #[.pointer (some ⟨w1.heap.size, 0, none⟩)] ent53 s _ (by omega) (LineInv 50 (PtR NT) w1.heap.size wb) (LineBad NT w1.heap.size wb) (call53 N B wb (hg.out.up hbelb.out) s (by omega) w1.heap.size (by omega)) hst.out).mono ?_); rintro e w2 (⟨rfl, vi, pts, hci⟩ | ⟨t, q, rfl, p, hp, hpb, hfi⟩); (have hbel2 := hci.bel.below (Nat.le_refl _) hsz1); (obtain ⟨ai, ci, rfl⟩ := own_shape hci.built.choose_spec.2.2.1); (have hc1 := hci.blk.cell 0); (have hB2 := hcb.out.blk.below hbel2 hcb.out.blk.lt); (have hcc := hB2.cell 0); (have hcf := hB2.frozen 0); (simp only [List.getElem?_toArray, List.getElem?_cons_zero] at hcc hc1); (have hlt := hB2.lt); (have hown := hide (hb.out.below hbel2).2.2.1); (have hsz2 := hbel2.size); (replace hB2 := hide hB2); (replace hbel2 := hide hbel2); (replace hci := hide hci))
    | (at_builtin; refine wpList_append_at _ rfl _ _ 56 rfl base 50 i0 (.slice none 0 0) 1 24 under56 hi hz0 hz1 hz2 rfl (by decide) _ _ _ rfl (hown.out.alloc _) ⟨w2.heap.size, 0, none⟩ 1 1 [.slice ai pts.length ci] rfl (by decide) rfl (new_at w2 50 #[.slice ai pts.length ci] _ rfl) (by simp [Value.oneCell']) (by unfold maxLen; omega) (by omega) (by simp; omega) ?_; intro v' w3 hown' hgrow hv'; obtain ⟨ao, cp, rfl⟩ := own_shape hown'; have hB3 := (hB2.out.alloc _).grown hgrow (own_ne hb.out hcb.out.blk (by decide)); have hcc3 := hB3.cell 0; have hcf3 := hB3.frozen 0; simp only [List.getElem?_toArray, List.getElem?_cons_zero] at hcc3; clear hB3))
  · go_ret
    refine .inl ⟨rfl, _, xs ++ [pts], hcb.out.push (by decide) hb.out (hbel2.out.trans ((below_alloc w2 _).mono hsz2)) ?_ rfl (by omega) hown' hgrow hv' (.inr hBb) ⟨s, by rw [tx_bs]; exact hbo, hci.out.all⟩⟩
    exact (hci.out.built.sup.imp fun w h => ⟨_, rfl, h⟩).below (below_alloc w2 _)
  · go_ret
    exact .inr ⟨t, q, rfl, .inr ⟨s, by rw [tx_bs]; exact hbo, p, hp, hpb⟩, hcb.out.bel.trans (Fr.of (hfi.below (Nat.le_refl _) hsz1) (by omega))⟩
  · go_ret
    exact .inr ⟨ty, q, rfl, .inl (by rw [tx_bs]; exact hbb), hcb.out.bel⟩
theorem call58 {NT : List UInt8 → Nat → Prop} (N : NumIO NT) (B : Nat) (w0 : World) (hg : Glob B w0) (s : ByteArray) (hs : s.size ≤ 1099511627776) (Bw : Nat) (hBw : B ≤ Bw) :
    ∀ done (p : ByteArray) rest w, done ++ bs p :: rest = commaParts (bs s) → p.size ≤ s.size → LineInv 86 (PtR NT) Bw w0 done w →
      Calls Tryz.prog 58 (#[.string p] ++ #[.pointer (some ⟨Bw, 0, none⟩)]) w fun e w' => (e = .returned .nilIface ∧ LineInv 86 (PtR NT) Bw w0 (done ++ [bs p]) w') ∨ (∃ t q, e = .returned (.iface t q) ∧ LineBad NT Bw w0 (bs p) w') := by
  rintro done p rest w h1 h2 ⟨v, ps, hc⟩
  have hb := parts_bound h1
  refine (add58 N B _ _ Bw w0 w done v ps p (hg.below (hc.bel.below hg.size hBw)) (by omega) (by omega) hc.bel.size hc).mono ?_
  rintro e w' (⟨rfl, h⟩ | ⟨t, q, rfl, h3, h4⟩)
  · exact .inl ⟨rfl, h⟩
  · exact .inr ⟨t, q, rfl, by rw [LineBad, tx_bs]; exact ⟨h3, h4⟩⟩

theorem ent58 : ∀ (args : Array Value) (w : World), (callFunc 58 args).run Tryz.prog w = .ok (.enter 58 args) w := enters_of Tryz.func58 (by kernel_rfl) rfl
set_option maxHeartbeats 1000000 in
set_option maxRecDepth 100000 in
theorem add57 {NT : List UInt8 → Nat → Prop} (N : NumIO NT) (B lim base Bw : Nat) (w0 w : World) (parts : List (List UInt8)) (v : Value) (xs : List (List (Nat × Nat))) (s0 : ByteArray) (hg : Glob B w) (hs : s0.size ≤ 1099511627776)
    (hl : parts.length ≤ 1099511627776) (hbw : base ≤ w.heap.size) (hBb : Bw < base) (hc : Cap 52 86 1 RowIt (RingR NT) lim base Bw w0 parts v xs w) :
    Calls Tryz.prog 57 #[.string s0, .pointer (some ⟨Bw, 0, none⟩)] w fun e w' => (e = .returned .nilIface ∧ ∃ v' xs', Cap 52 86 1 RowIt (RingR NT) lim base Bw w0 (parts ++ [bs s0]) v' xs' w') ∨
      (∃ t q, e = .returned (.iface t q) ∧ RingBad NT (bs s0) ∧ Fr lim Bw w0 w') := by
  obtain ⟨i0, hi, hz0, hz1, hz2⟩ := info_parts info86
  obtain ⟨j0, hj, hy0, hy1, hy2⟩ := info_parts info47
  have hpl : xs.length ≤ 1099511627776 := by rw [hc.all.len]; exact hl
  have hfw := Nat.le_trans hc.hfb hbw
  have hgs := hg.size
  obtain ⟨css, hb0⟩ := hc.built
  have hmf : ∀ (fn : Fn) (first cap : Array Value) (w : World), (Instr.makeFunc fn first cap).run Tryz.prog w = .ok (.func fn first cap) w := fun _ _ _ _ => rfl
  replace hg := hide hg
  replace hc := hide hc
  replace hb0 := hide hb0
  go_enter Tryz.func57, Tryz.ntmps57
  go_wp2_with (first
    | (go_at_call 40; (with_reducible refine (brackets_any B s0 _ hg.out hs).mono ?_); rintro e wb ⟨⟨s, ⟨rfl, hbo⟩ | ⟨ty, q, rfl, hbb⟩⟩, hbelb⟩; all_goals (have hcb := hide (hc.out.below hbelb hfw); have hb := hide (hb0.out.below hbelb); have hszb := hbelb.size; (try have hsl := hbo.1); replace hbelb := hide hbelb))
    | (go_at_call 43; (with_reducible refine (commas_any s wb (by omega)).mono ?_); rintro e w' ⟨rfl, rfl⟩; have hcl := commasN_le (bs s); rw [bs_len] at hcl)
    | (at_make; refine wpList_make_own _ rfl _ _ 86 rfl wb.heap.size 47 j0 (.agg #[.float .f64 0, .float .f64 0]) 2 under86 hj hy0 hy1 .i64 .i64 _ (commasN (bs s) + 1) rfl rfl (by omega) (by rw [hy2]; omega) (by unfold maxLen; omega) (Nat.le_refl _) ?_; intro w1 hown1 hgrow1; have hsz1 := hgrow1.size; have hst := hide (LineInv.mk (Cap.start (T := 86) (It := PtIt) (R := PtR NT) hown1 (Nat.le_refl _) (Fr.of ((Below.refl wb.heap.size wb).grown hgrow1 (Nat.le_refl _) (by simp)) (Nat.le_refl _)) hsz1)); clear hown1 hgrow1)
    | (go_at_call 44; (with_reducible refine (splitComma_any 58 #[.pointer (some ⟨w1.heap.size, 0, none⟩)] ent58 s _ (by omega) (LineInv 86 (PtR NT) w1.heap.size wb) (LineBad NT w1.heap.size wb) (call58 N B wb (hg.out.up hbelb.out) s (by omega) w1.heap.size (by omega)) hst.out).mono ?_); rintro e w2 (⟨rfl, vi, pts, hci⟩ | ⟨t, q, rfl, p, hp, hpb, hfi⟩); (have hbel2 := hci.bel.below (Nat.le_refl _) hsz1); (obtain ⟨ai, ci, rfl⟩ := own_shape hci.built.choose_spec.2.2.1); (have hc1 := hci.blk.cell 0); (have hB2 := hcb.out.blk.below hbel2 hcb.out.blk.lt); (have hcc := hB2.cell 0); (have hcf := hB2.frozen 0); (simp only [List.getElem?_toArray, List.getElem?_cons_zero] at hcc hc1); (have hlt := hB2.lt); (have hown := hide (hb.out.below hbel2).2.2.1); (have hsz2 := hbel2.size); (replace hB2 := hide hB2); (replace hbel2 := hide hbel2); (replace hci := hide hci))
    | (at_builtin; refine wpList_append_at _ rfl _ _ 52 rfl base 86 i0 (.slice none 0 0) 1 24 under52 hi hz0 hz1 hz2 rfl (by decide) _ _ _ rfl (hown.out.alloc _) ⟨w2.heap.size, 0, none⟩ 1 1 [.slice ai pts.length ci] rfl (by decide) rfl (new_at w2 86 #[.slice ai pts.length ci] _ rfl) (by simp [Value.oneCell']) (by unfold maxLen; omega) (by omega) (by simp; omega) ?_; intro v' w3 hown' hgrow hv'; obtain ⟨ao, cp, rfl⟩ := own_shape hown'; have hB3 := (hB2.out.alloc _).grown hgrow (own_ne hb.out hcb.out.blk (by decide)); have hcc3 := hB3.cell 0; have hcf3 := hB3.frozen 0; simp only [List.getElem?_toArray, List.getElem?_cons_zero] at hcc3; clear hB3))
  · go_ret
    refine .inl ⟨rfl, _, xs ++ [pts], hcb.out.push (by decide) hb.out (hbel2.out.trans ((below_alloc w2 _).mono hsz2)) ?_ rfl (by omega) hown' hgrow hv' (.inr hBb) ⟨s, by rw [tx_bs]; exact hbo, hci.out.all⟩⟩
    exact (hci.out.built.sup.imp fun w h => ⟨_, rfl, h⟩).below (below_alloc w2 _)
  · go_ret
    exact .inr ⟨t, q, rfl, .inr ⟨s, by rw [tx_bs]; exact hbo, p, hp, hpb⟩, hcb.out.bel.trans (Fr.of (hfi.below (Nat.le_refl _) hsz1) (by omega))⟩
  · go_ret
    exact .inr ⟨ty, q, rfl, .inl (by rw [tx_bs]; exact hbb), hcb.out.bel⟩
end Go.Proofs.YtgmbjdoifkjdhaaGreatDoor
