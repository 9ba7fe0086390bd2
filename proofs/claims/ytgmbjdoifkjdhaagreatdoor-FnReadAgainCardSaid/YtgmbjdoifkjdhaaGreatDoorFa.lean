/- fmtEFG: bytes put behind each other in a row of 24; the form with an exponent. -/
import Derived.Test.YtgmbjdoifkjdhaaGreatDoorKu
import Derived.Test.YtgmbjdoifkjdhaaGreatDoorKv
import Derived.Deep.DeepCutAuto
import Derived.Deep.CutBlock
namespace Go.Proofs.YtgmbjdoifkjdhaaGreatDoor
open Go.RowKit

theorem byteCells_cat' (l l' : List UInt8) : Lib.byteCells l ++ Lib.byteCells l' = Lib.byteCells (l ++ l') := (List.map_append ..).symm
/-- Block d, a row of 24 of the call's own, holds these bytes; all else is as it was. -/
structure Dst (d : Nat) (l : List UInt8) (W0 w : World) : Prop where
  own : w.ownsRow d 5 1 (.slice (some ⟨d, 0, none⟩) l.length 24) l.length (Lib.byteCells l)
  gr : W0.grownBy w (some d)
theorem grown_trans {a b c : World} {r : Option Nat} (h : a.grownBy b r) (h' : b.grownBy c r) : a.grownBy c r :=
  ⟨h'.os.trans h.os, h'.tape.trans h.tape, h'.output.trans h.output, Nat.le_trans h.size h'.size, fun k hk hr => (h'.block k (Nat.lt_of_lt_of_le hk h.size) hr).trans (h.block k hk hr)⟩
theorem Dst.cell {d : Nat} {l : List UInt8} {W0 w : World} (h : Dst d l W0 w) {g i : Nat} {v : Value} (hc : W0.cell? ⟨g, i, none⟩ = some v) (hg : g ≠ d) : w.cell? ⟨g, i, none⟩ = some v :=
  h.gr.cell hc (by simp; exact hg)
theorem Dst.alloc {d : Nat} {l : List UInt8} {W0 w : World} (h : Dst d l W0 w) (o : Obj) : Dst d l W0 (w.alloc o) :=
  ⟨h.own.alloc o, grown_trans h.gr (World.grownBy_alloc w o _)⟩
theorem Dst.drewN {d : Nat} {l : List UInt8} {W0 w : World} (h : Dst d l W0 w) (n : Nat) : Dst d l W0 (w.drewN n) :=
  ⟨h.own, ⟨h.gr.os, h.gr.tape, h.gr.output, h.gr.size, h.gr.block⟩⟩
theorem Dst.put {d n : Nat} {l l' : List UInt8} {W0 w w' : World} {xs : List Value} (h : Dst d l W0 w) (hx : xs = Lib.byteCells l') (hn : n = l.length + l'.length) (ho : w'.ownsRow d 5 1 (.slice (some ⟨d, 0, none⟩) n 24) n (Lib.byteCells l ++ xs)) (hg : w.grownBy w' (some d)) : Dst d (l ++ l') W0 w' := by
  subst hx hn
  rw [byteCells_cat'] at ho
  refine ⟨?_, grown_trans h.gr hg⟩
  rw [List.length_append]; exact ho
/-- One more byte, out of the block that was just laid for it. -/
theorem wpList_app1 {ops : Array Oper} {rest : List Oper} {o : Oper} {a : Act} {Q : Exit → Act → World → Prop} {i0 : TypeInfo} (hi : Tryz.prog.info? 5 = some i0) (hz : i0.size = 1) (hgd : o.guard = none) (s x : Operand)
    (ho : o.op = .call { callee := .builtin .append, args := #[s, x], argTypes := #[66, 66] }) (d : Nat) (l : List UInt8) (W0 w0 : World) (hD : Dst d l W0 w0) (c : UInt8) (z : Int) (hc : z = c.toNat) (n g : Nat)
    (hs : a.eval s = .slice (some ⟨d, 0, none⟩) n 24) (hn : n = l.length) (hx : a.eval x = .slice (some ⟨g, 0, none⟩) 1 1) (hg : g = w0.heap.size) (hlen : l.length + 1 ≤ 24)
    (h : ∀ w', Dst d (l ++ [c]) W0 w' → wpList Tryz.prog ops Q rest (a.put o.dst (.slice (some ⟨d, 0, none⟩) (n + 1) 24)) w') : wpList Tryz.prog ops Q (o :: rest) a (w0.alloc (.cells #[.int .u8 z] 5)) := by
  subst hg hc hn
  refine wpList_append_fits _ hgd s x 66 ho d 5 i0 1 under66 hi hz d l.length 24 (Lib.byteCells l) hs (hD.own.alloc _) ⟨_, 0, none⟩ 1 1 (Lib.byteCells [c]) hx rfl ?_ ?_ hlen ?_
  · exact new_at w0 5 #[.int .u8 (c.toNat : Int)] _ rfl
  · intro u hu; simp [Lib.byteCells] at hu; subst hu; rfl
  · intro w' h1 h2
    exact h w' ((hD.alloc _).put rfl (by simp) h1 h2)
theorem wpList_app2 {ops : Array Oper} {rest : List Oper} {o : Oper} {a : Act} {Q : Exit → Act → World → Prop} {i0 : TypeInfo} (hi : Tryz.prog.info? 5 = some i0) (hz : i0.size = 1) (hgd : o.guard = none) (s x : Operand)
    (ho : o.op = .call { callee := .builtin .append, args := #[s, x], argTypes := #[66, 66] }) (d : Nat) (l : List UInt8) (W0 w0 : World) (hD : Dst d l W0 w0) (c c2 : UInt8) (z z2 : Int) (hc : z = c.toNat) (hc2 : z2 = c2.toNat) (n g : Nat)
    (hs : a.eval s = .slice (some ⟨d, 0, none⟩) n 24) (hn : n = l.length) (hx : a.eval x = .slice (some ⟨g, 0, none⟩) 2 2) (hg : g = w0.heap.size) (hlen : l.length + 2 ≤ 24)
    (h : ∀ w', Dst d (l ++ [c, c2]) W0 w' → wpList Tryz.prog ops Q rest (a.put o.dst (.slice (some ⟨d, 0, none⟩) (n + 2) 24)) w') : wpList Tryz.prog ops Q (o :: rest) a (w0.alloc (.cells #[.int .u8 z, .int .u8 z2] 5)) := by
  subst hg hc hc2 hn
  refine wpList_append_fits _ hgd s x 66 ho d 5 i0 1 under66 hi hz d l.length 24 (Lib.byteCells l) hs (hD.own.alloc _) ⟨_, 0, none⟩ 2 2 (Lib.byteCells [c, c2]) hx rfl ?_ ?_ hlen ?_
  · exact new_at w0 5 #[.int .u8 (c.toNat : Int), .int .u8 (c2.toNat : Int)] _ rfl
  · intro u hu; simp [Lib.byteCells] at hu; rcases hu with rfl | rfl <;> rfl
  · intro w' h1 h2
    exact h w' ((hD.alloc _).put rfl (by simp) h1 h2)
theorem wpList_app3 {ops : Array Oper} {rest : List Oper} {o : Oper} {a : Act} {Q : Exit → Act → World → Prop} {i0 : TypeInfo} (hi : Tryz.prog.info? 5 = some i0) (hz : i0.size = 1) (hgd : o.guard = none) (s x : Operand)
    (ho : o.op = .call { callee := .builtin .append, args := #[s, x], argTypes := #[66, 66] }) (d : Nat) (l : List UInt8) (W0 w0 : World) (hD : Dst d l W0 w0) (c c2 c3 : UInt8) (z z2 z3 : Int) (hc : z = c.toNat) (hc2 : z2 = c2.toNat) (hc3 : z3 = c3.toNat) (n g : Nat)
    (hs : a.eval s = .slice (some ⟨d, 0, none⟩) n 24) (hn : n = l.length) (hx : a.eval x = .slice (some ⟨g, 0, none⟩) 3 3) (hg : g = w0.heap.size) (hlen : l.length + 3 ≤ 24)
    (h : ∀ w', Dst d (l ++ [c, c2, c3]) W0 w' → wpList Tryz.prog ops Q rest (a.put o.dst (.slice (some ⟨d, 0, none⟩) (n + 3) 24)) w') : wpList Tryz.prog ops Q (o :: rest) a (w0.alloc (.cells #[.int .u8 z, .int .u8 z2, .int .u8 z3] 5)) := by
  subst hg hc hc2 hc3 hn
  refine wpList_append_fits _ hgd s x 66 ho d 5 i0 1 under66 hi hz d l.length 24 (Lib.byteCells l) hs (hD.own.alloc _) ⟨_, 0, none⟩ 3 3 (Lib.byteCells [c, c2, c3]) hx rfl ?_ ?_ hlen ?_
  · exact new_at w0 5 #[.int .u8 (c.toNat : Int), .int .u8 (c2.toNat : Int), .int .u8 (c3.toNat : Int)] _ rfl
  · intro u hu; simp [Lib.byteCells] at hu; rcases hu with rfl | rfl | rfl <;> rfl
  · intro w' h1 h2
    exact h w' ((hD.alloc _).put rfl (by simp) h1 h2)
/-- The digits lie at block g. -/
def DigAt (g : Nat) (ds : List UInt8) (w : World) : Prop := ∀ i c, ds[i]? = some c → w.cell? ⟨g, i, none⟩ = some (.int .u8 (c.toNat : Int))
/-- Digits of the row of digits. -/
theorem wpList_appDs {ops : Array Oper} {rest : List Oper} {o : Oper} {a : Act} {Q : Exit → Act → World → Prop} {i0 : TypeInfo} (hi : Tryz.prog.info? 5 = some i0) (hz : i0.size = 1) (hgd : o.guard = none) (s x : Operand)
    (ho : o.op = .call { callee := .builtin .append, args := #[s, x], argTypes := #[66, 66] }) (d : Nat) (l : List UInt8) (W0 w0 : World) (hD : Dst d l W0 w0) (n g m cap : Nat) (ds : List UInt8) (hds : DigAt g ds W0) (hgd2 : g ≠ d)
    (hs : a.eval s = .slice (some ⟨d, 0, none⟩) n 24) (hn : n = l.length) (hx : a.eval x = .slice (some ⟨g, 1, none⟩) m cap) (hm : m = ds.length - 1) (hlen : l.length + (ds.length - 1) ≤ 24)
    (h : ∀ w', Dst d (l ++ ds.drop 1) W0 w' → wpList Tryz.prog ops Q rest (a.put o.dst (.slice (some ⟨d, 0, none⟩) (n + m) 24)) w') : wpList Tryz.prog ops Q (o :: rest) a w0 := by
  subst hn
  subst hm
  refine wpList_append_fits _ hgd s x 66 ho d 5 i0 1 under66 hi hz d l.length 24 (Lib.byteCells l) hs hD.own ⟨g, 1, none⟩ _ cap (Lib.byteCells (ds.drop 1)) hx (by simp [Lib.byteCells]) ?_ ?_ hlen ?_
  · intro j u hj
    unfold Lib.byteCells at hj
    rw [List.getElem?_map] at hj
    obtain ⟨c, hc, rfl⟩ := Option.map_eq_some_iff.mp hj
    rw [List.getElem?_drop] at hc
    have hadd : (⟨g, 1, none⟩ : Addr).add j = ⟨g, 1 + j, none⟩ := by unfold Addr.add; split <;> simp_all
    rw [hadd]
    exact hD.cell (hds _ _ hc) hgd2
  · intro u hu
    obtain ⟨c, _, rfl⟩ := List.mem_map.mp hu
    rfl
  · intro w' h1 h2
    exact h w' (hD.put rfl (by simp) h1 h2)
theorem sl_len {a : Option Addr} {n m c : Nat} (h : n = m) : Value.slice a n c = .slice a m c := by rw [h]
theorem take_one0 {ds : List UInt8} {c : UInt8} (h : ds[0]? = some c) : ds.take 1 = [c] := by
  cases ds with
  | nil => cases h
  | cons a t => simp at h; subst h; rfl
def EfgOut (d : Nat) (l : List UInt8) (w : World) (e : Ending) (w' : World) : Prop := e = .returned (.slice (some ⟨d, 0, none⟩) l.length 24) ∧ Dst d l w w'
set_option maxRecDepth 100000 in
set_option maxHeartbeats 8000000 in
theorem efg_e (d g : Nat) (neg : Bool) (ds : List UInt8) (dp : Int) (w : World) (hD : Dst d [] w w) (hds : DigAt g ds w) (hg : g ≠ d) (h1 : 0 < ds.length) (h2 : ds.length ≤ 17) (hdp : dp < -3 ∨ 6 < dp) (hb : (dp - 1).natAbs < 1000) :
    Calls Tryz.prog 95 #[.slice (some ⟨d, 0, none⟩) 0 24, .bool neg, .slice (some ⟨g, 0, none⟩) 32 32, .int .i64 dp, .int .i64 ds.length, .int .i64 ds.length, .int .u8 103, .bool true] w (EfgOut d (gT neg ds dp) w) := by
  obtain ⟨i0, hi, hz0, hz1, hz2⟩ := info_parts info5
  obtain ⟨n, hn⟩ : ∃ n, ds.length = n := ⟨_, rfl⟩
  rw [hn] at h1 h2
  rw [hn]
  have hgT : Hid (gT neg ds dp = (if neg then [45] else []) ++ eT ds dp) := hide (by unfold gT; rw [if_pos hdp])
  replace hD := hide hD
  replace hds := hide hds
  obtain ⟨c0, hc0⟩ : ∃ c, ds[0]? = some c := ⟨ds[0]'(by omega), List.getElem?_eq_getElem (by omega)⟩
  have hn1 : ¬ n < n := by omega
  have hs1 : (dp - 1 < -4) ∨ (¬ dp - 1 < -4 ∧ 6 ≤ dp - 1) := by omega
  have hnz : ((n : Int) != 0) = true := by simp; omega
  have hnz2 : ((n : Int) == 0) = false := by simp; omega
  replace hn := hide hn
  replace hc0 := hide hc0
  go_enter Tryz.func95, Tryz.ntmps95
  go_upto_if 36 with (fail)
  go_cut [5, 6] (fun s5 s6 w' => (s5 = .int .i64 ((n : Int) - 1) ∧ s6 = .int .u8 101) ∧ w = w')
  case first =>
    as_aux_lemma =>
    rcases hs1 with hs1 | ⟨hs1, hs2⟩
    all_goals (
      go_wp2
      go_meet; case rel => exact ⟨⟨rfl, rfl⟩, rfl⟩)
  case rest =>
  obtain ⟨⟨rfl, rfl⟩, rfl⟩ := hcut
  clear hs1
  go_upto_if 78 with (fail)
  go_cut [0] (fun s0 wq => ∃ l, s0 = .slice (some ⟨d, 0, none⟩) l.length 24 ∧ l.length ≤ 1 ∧ Hid (l = if neg then [45] else []) ∧ Hid (Dst d l w wq))
  case first =>
    as_aux_lemma =>
    cases neg
    · go_wp2
      go_meet; case rel => exact ⟨[], rfl, by decide, hide rfl, hD⟩
    · go_wp2_with (first | (at_builtin; refine wpList_app1 hi hz1 rfl _ _ rfl d [] w _ hD.out 45 45 rfl _ _ rfl rfl rfl rfl (by decide) ?_; intro w1 hD1; replace hD1 := hide hD1))
      go_meet; case rel => exact ⟨[45], rfl, by decide, hide rfl, hD1⟩
  case rest =>
  as_aux_lemma =>
  obtain ⟨l1, rfl, hl1, he1, hD1⟩ := hcut
  have hcc := hD1.out.cell (hds.out 0 c0 hc0.out) hg
  go_upto_if 92 with (first | (at_builtin; refine wpList_app1 hi hz1 rfl _ _ rfl d l1 w _ hD1.out c0 _ rfl _ _ rfl rfl rfl rfl (by omega) ?_; intro w2 hD2; replace hD2 := hide hD2))
  go_cut [0] (fun s0 wq => ∃ l, s0 = .slice (some ⟨d, 0, none⟩) l.length 24 ∧ l.length ≤ 19 ∧ Hid (l = (if neg then [45] else []) ++ (ds.take 1 ++ (if 1 < ds.length then 46 :: ds.drop 1 else []))) ∧ Hid (Dst d l w wq))
  case first =>
    as_aux_lemma =>
    by_cases hn2 : 1 < n
    · go_wp2_with (first
        | (at_builtin; refine wpList_app1 hi hz1 rfl _ _ rfl d (l1 ++ [c0]) w _ hD2.out 46 46 rfl _ _ rfl (by simp) rfl rfl (by simp; omega) ?_; intro w3 hD3; replace hD3 := hide hD3)
        | (at_builtin; refine wpList_appDs hi hz1 rfl _ _ rfl d _ w _ hD3.out _ g (n - 1) 31 ds hds.out hg rfl (by simp) rfl (by rw [hn.out]) (by rw [hn.out]; simp; omega) ?_; intro w4 hD4; replace hD4 := hide hD4))
      refine wp_loop_rounds 1 ?_
      rw [rounds_succ]
      go_wp2
      go_meet; case rel =>
        have hq : 1 < ds.length := by rw [hn.out]; exact hn2
        refine ⟨l1 ++ [c0] ++ [46] ++ ds.drop 1, sl_len (by simp [hn.out]; omega), by simp [hn.out]; omega, hide ?_, hD4⟩
        rw [he1.out, if_pos hq, take_one0 hc0.out]
        simp
    · go_wp2
      go_meet; case rel =>
        have hq : ¬ 1 < ds.length := by rw [hn.out]; exact hn2
        refine ⟨l1 ++ [c0], by simp, by simp; omega, hide ?_, hD2⟩
        rw [he1.out, if_neg hq, take_one0 hc0.out]
        simp
  case rest =>
  as_aux_lemma =>
  clear hcc hl1 he1 hD1 hD
  obtain ⟨l2, rfl, hl2, he2, hD2⟩ := hcut
  go_upto_if 129 with (first | (at_builtin; refine wpList_app1 hi hz1 rfl _ _ rfl d l2 w _ hD2.out 101 101 rfl _ _ rfl rfl rfl rfl (by omega) ?_; intro w3 hD3; replace hD3 := hide hD3))
  go_cut [19, 22] (fun s19 s22 w' => (∃ (k : Nat) (c : UInt8), s19 = .int .u8 (c.toNat : Int) ∧ s22 = .int .i64 k ∧ k < 1000 ∧ Hid (k = (dp - 1).natAbs) ∧ Hid (c = if dp - 1 < 0 then 45 else 43)) ∧ w3 = w')
  case first =>
    as_aux_lemma =>
    by_cases he : dp - 1 < 0
    · go_wp2
      go_meet; case rel => exact ⟨⟨(dp - 1).natAbs, 45, rfl, vint (by omega), hb, hide rfl, hide (by rw [if_pos he])⟩, rfl⟩
    · go_wp2
      go_meet; case rel => exact ⟨⟨(dp - 1).natAbs, 43, rfl, vint (by omega), hb, hide rfl, hide (by rw [if_neg (by omega)])⟩, rfl⟩
  case rest =>
  as_aux_lemma =>
  obtain ⟨⟨k, c, rfl, rfl, hk, hke, hc⟩, rfl⟩ := hcut
  have fin : ∀ (x : List UInt8) (w5 : World), Dst d (l2 ++ [101] ++ [c] ++ x) w w5 → expT (dp - 1) = c :: x → Hid (Dst d (gT neg ds dp) w w5 ∧ (l2 ++ [101] ++ [c] ++ x).length = (gT neg ds dp).length) := by
    intro x w5 h5 hx
    have : l2 ++ [101] ++ [c] ++ x = gT neg ds dp := by
      rw [hgT.out, he2.out]
      unfold eT
      rw [hx]
      simp
    rw [this] at h5
    exact hide ⟨h5, by rw [this]⟩
  replace fin := hide fin
  by_cases hk1 : k < 10
  · go_wp2_with (first
      | (at_builtin; refine wpList_app1 hi hz1 rfl _ _ rfl d (l2 ++ [101]) w _ hD3.out c _ rfl _ _ rfl (by simp) rfl rfl (by simp; omega) ?_; intro w4 hD4; replace hD4 := hide hD4)
      | (at_builtin; refine wpList_app2 hi hz1 rfl _ _ rfl d (l2 ++ [101] ++ [c]) w _ hD4.out 48 (dg k) _ _ rfl (by rw [dg_nat hk1]; omega) _ _ rfl (by simp) rfl rfl (by simp; omega) ?_; intro w5 hD5; replace hD5 := hide hD5))
    go_ret
    have q1 : (dp - 1).natAbs < 10 := by rw [← hke.out]; exact hk1
    have hx := fin.out _ _ hD5.out (by unfold expT; rw [if_pos q1, hc.out, hke.out])
    exact ⟨by rw [← hx.out.2]; simp, hx.out.1⟩
  · by_cases hk2 : k < 100
    · go_wp2_with (first
        | (at_builtin; refine wpList_app1 hi hz1 rfl _ _ rfl d (l2 ++ [101]) w _ hD3.out c _ rfl _ _ rfl (by simp) rfl rfl (by simp; omega) ?_; intro w4 hD4; replace hD4 := hide hD4)
        | (at_builtin; refine wpList_app2 hi hz1 rfl _ _ rfl d (l2 ++ [101] ++ [c]) w _ hD4.out (dg (k / 10)) (dg (k % 10)) _ _ (by rw [dg_nat (by omega)]; omega) (by rw [dg_nat (by omega)]; omega) _ _ rfl (by simp) rfl rfl (by simp; omega) ?_; intro w5 hD5; replace hD5 := hide hD5))
      go_ret
      have q1 : ¬ (dp - 1).natAbs < 10 := by rw [← hke.out]; exact hk1
      have q2 : (dp - 1).natAbs < 100 := by rw [← hke.out]; exact hk2
      have hx := fin.out _ _ hD5.out (by unfold expT; rw [if_neg q1, if_pos q2, hc.out, hke.out])
      exact ⟨by rw [← hx.out.2]; simp, hx.out.1⟩
    · go_wp2_with (first
        | (at_builtin; refine wpList_app1 hi hz1 rfl _ _ rfl d (l2 ++ [101]) w _ hD3.out c _ rfl _ _ rfl (by simp) rfl rfl (by simp; omega) ?_; intro w4 hD4; replace hD4 := hide hD4)
        | (at_builtin; refine wpList_app3 hi hz1 rfl _ _ rfl d (l2 ++ [101] ++ [c]) w _ hD4.out (dg (k / 100)) (dg (k / 10 % 10)) (dg (k % 10)) _ _ _ (by rw [dg_nat (by omega)]; omega) (by rw [dg_nat (by omega)]; omega) (by rw [dg_nat (by omega)]; omega) _ _ rfl (by simp) rfl rfl (by simp; omega) ?_; intro w5 hD5; replace hD5 := hide hD5))
      go_ret
      have q1 : ¬ (dp - 1).natAbs < 10 := by rw [← hke.out]; exact hk1
      have q2 : ¬ (dp - 1).natAbs < 100 := by rw [← hke.out]; exact hk2
      have hx := fin.out _ _ hD5.out (by unfold expT; rw [if_neg q1, if_neg q2, hc.out, hke.out])
      exact ⟨by rw [← hx.out.2]; simp, hx.out.1⟩
end Go.Proofs.YtgmbjdoifkjdhaaGreatDoor
