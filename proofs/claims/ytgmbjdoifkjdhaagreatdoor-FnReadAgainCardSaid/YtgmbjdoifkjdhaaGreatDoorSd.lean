/- same. FnReadAgain: true of every text. -/
import Derived.Test.YtgmbjdoifkjdhaaGreatDoorSc
import Derived.Test.YtgmbjdoifkjdhaaGreatDoorNc
import Derived.Test.YtgmbjdoifkjdhaaGreatDoorFg
section
namespace Go.Proofs.YtgmbjdoifkjdhaaGreatDoor
open Go.RowKit

theorem own_slice {base : Nat} {v : Value} {m : Nat} {xs : List Value} {w : World} (h : w.ownsRow base 38 2 v m xs) : ∃ ao cap, v = .slice ao m cap := by
  rcases h.2 with ⟨rfl, rfl⟩ | ⟨g, cap, cur, rfl, _⟩
  · exact ⟨_, _, rfl⟩
  · exact ⟨_, _, rfl⟩
set_option maxHeartbeats 4000000 in
set_option maxRecDepth 100000 in
theorem same_any {g : Geom} {c : Nat} (hs : Small g) (hc : Cost g c) (hn : c ≤ 8796093022208) (kd lv pv kd2 lv2 pv2 : Value) (w : World) (hv : Stay (fun w => ShpIs w [kd, lv, pv] g) w) (hv2 : Stay (fun w => ShpIs w [kd2, lv2, pv2] g) w) :
    Calls Tryz.prog 7 #[.agg #[kd, lv, pv], .agg #[kd2, lv2, pv2]] w fun e w' => e = .returned (.bool true) ∧ Below w.heap.size w w' := by
  have hP := po_any hs c hc hn
  have hS := ss_any hs
  obtain ⟨rfl, ⟨a1, c1, rfl, hz1⟩, ⟨a2, c2, rfl, hz2⟩⟩ := view_of hv
  obtain ⟨rfl, ⟨a3, c3, rfl, hz3⟩, ⟨a4, c4, rfl, hz4⟩⟩ := view_of hv2
  clear hz1 hz2 hz3 hz4
  obtain ⟨K, hK⟩ : ∃ K, kindG g = K := ⟨_, rfl⟩
  obtain ⟨nr, hrs⟩ : ∃ rs, (listsG g).length = rs := ⟨_, rfl⟩
  obtain ⟨np, hgs⟩ : ∃ gs, (partsG g).length = gs := ⟨_, rfl⟩
  rw [hK, hrs, hgs] at hv hv2
  rw [hK, hrs, hgs]
  clear hs hc hK hrs hgs
  obtain ⟨w0, hw0⟩ : ∃ w0, (w.alloc (.cells #[.int .i64 K, .slice a1 nr c1, .slice a2 np c2] 26)).alloc (.cells #[.int .i64 K, .slice a3 nr c3, .slice a4 np c4] 26) = w0 := ⟨_, rfl⟩
  have hw0s : Hid (w0.heap.size = w.heap.size + 1 + 1) := hide (by rw [← hw0]; simp)
  have hA : Hid (Blk w0 w.heap.size 26 #[.int .i64 K, .slice a1 nr c1, .slice a2 np c2]) := hide (by rw [← hw0]; exact (Blk.new w 26 _).alloc _)
  have hB : Hid (Blk w0 (w.heap.size + 1) 26 #[.int .i64 K, .slice a3 nr c3, .slice a4 np c4]) := hide (by rw [← hw0]; simpa using Blk.new (w.alloc (.cells #[.int .i64 K, .slice a1 nr c1, .slice a2 np c2] 26)) 26 #[.int .i64 K, .slice a3 nr c3, .slice a4 np c4])
  have hb0 : Hid (Below w.heap.size w w0) := hide (by rw [← hw0]; exact (below_alloc w _).alloc (by simp) _)
  have hcell : Hid (∀ W, Below w0.heap.size w0 W → (W.cell? ⟨w.heap.size, 0, none⟩ = some (.int .i64 K) ∧ W.cell? ⟨w.heap.size, 1, none⟩ = some (.slice a1 nr c1) ∧ W.cell? ⟨w.heap.size, 2, none⟩ = some (.slice a2 np c2)) ∧
      (W.cell? ⟨w.heap.size + 1, 0, none⟩ = some (.int .i64 K) ∧ W.cell? ⟨w.heap.size + 1, 1, none⟩ = some (.slice a3 nr c3) ∧ W.cell? ⟨w.heap.size + 1, 2, none⟩ = some (.slice a4 np c4))) := hide fun W hb => by
    have h := hA.out.below hb (by rw [hw0s.out]; omega)
    have h' := hB.out.below hb (by rw [hw0s.out]; omega)
    exact ⟨⟨h.cell 0, h.cell 1, h.cell 2⟩, ⟨h'.cell 0, h'.cell 1, h'.cell 2⟩⟩
  have hW : Hid (∀ W, Below w0.heap.size w0 W → Below w.heap.size w W) := hide fun W hb => hb0.out.trans (hb.mono (by rw [hw0s.out]; omega))
  have KA : Hid (∀ W, Below w0.heap.size w0 W → Calls Tryz.prog 12 #[.agg #[.int .i64 K, .slice a1 nr c1, .slice a2 np c2]] W (POut c W)) := hide fun W hb => hP _ _ _ W (hv.below (hW.out W hb))
  have KB : Hid (∀ W, Below w0.heap.size w0 W → Calls Tryz.prog 12 #[.agg #[.int .i64 K, .slice a3 nr c3, .slice a4 np c4]] W (POut c W)) := hide fun W hb => hP _ _ _ W (hv2.below (hW.out W hb))
  have KC : Hid (∀ W, Below w0.heap.size w0 W → Calls Tryz.prog 13 #[.agg #[.int .i64 K, .slice a1 nr c1, .slice a2 np c2], .agg #[.int .i64 K, .slice a3 nr c3, .slice a4 np c4]] W fun e w' => e = .returned (.bool true) ∧ Below W.heap.size W w') := hide fun W hb => hS _ _ _ _ _ _ W (hv.below (hW.out W hb)) (hv2.below (hW.out W hb))
  have hr0 : Hid (Below w0.heap.size w0 w0) := hide (Below.refl _ _)
  clear hP hS hv hv2 hA hB hb0
  replace hw0 := hide hw0
  have hnp : np = 0 ∨ ((np : Int) == 0) = false := by
    rcases Nat.eq_zero_or_pos np with h | h
    · exact .inl h
    · exact .inr (by simp; omega)
  go_enter Tryz.func7, Tryz.ntmps7
  go_wp2_with (fail)
  rw [hw0.out]
  refine (KA.out w0 hr0.out).mono ?_
  rintro e w2 ⟨⟨v2, base, m, xs, rfl, _, _, ho, hx1⟩, hb2⟩
  obtain ⟨ao, cap, rfl⟩ := own_slice ho
  clear ho hx1
  obtain ⟨⟨p0, p1, p2⟩, ⟨q0, q1, q2⟩⟩ := hcell.out w2 hb2
  replace hb2 := hide hb2
  by_cases hm : m = 0
  · subst hm
    go_wp2_with (fail)
    refine (KB.out w2 hb2.out).mono ?_
    rintro e w3 ⟨⟨v3, base, m, xs, rfl, _, _, ho, hx1⟩, hb3⟩
    obtain ⟨ao3, cap3, rfl⟩ := own_slice ho
    clear ho hx1
    have hb4 := hb2.out.trans (hb3.mono hb2.out.size)
    clear p0 p1 p2 q0 q1 q2 hb3
    obtain ⟨⟨p0, p1, p2⟩, ⟨q0, q1, q2⟩⟩ := hcell.out w3 hb4
    replace hb4 := hide hb4
    by_cases hm : m = 0
    · subst hm
      rcases hnp with rfl | hnp
      · go_wp2
        go_ret
        exact ⟨rfl, hW.out _ hb4.out⟩
      · go_wp2_with (first
          | (go_at_call 13; refine (KC.out w3 hb4.out).mono ?_; rintro e w4 ⟨rfl, hb5⟩; replace hb5 := hide (hb4.out.trans (hb5.mono hb4.out.size))))
        go_ret
        exact ⟨rfl, hW.out _ hb5.out⟩
    · have hmb : ((m : Int) == 0) = false := by simp; omega
      go_wp2_with (first
        | (go_at_call 13; refine (KC.out w3 hb4.out).mono ?_; rintro e w4 ⟨rfl, hb5⟩; replace hb5 := hide (hb4.out.trans (hb5.mono hb4.out.size))))
      go_ret
      exact ⟨rfl, hW.out _ hb5.out⟩
  · have hmb : ((m : Int) == 0) = false := by simp; omega
    go_wp2_with (first
      | (go_at_call 13; refine (KC.out w2 hb2.out).mono ?_; rintro e w4 ⟨rfl, hb5⟩; replace hb5 := hide (hb2.out.trans (hb5.mono hb2.out.size))))
    go_ret
    exact ⟨rfl, hW.out _ hb5.out⟩
end Go.Proofs.YtgmbjdoifkjdhaaGreatDoor
end
section
namespace Go.Proofs.YtgmbjdoifkjdhaaGreatDoor
open Go.RowKit

def lineLit : List UInt8 := [76, 73, 78, 69, 83, 84, 82, 73, 78, 71, 40, 49, 32, 50, 44, 51, 32, 52, 41]
theorem line_text {l : List UInt8} (h : WT NT l (.line [(w1, w2), (w3, w4)])) : l = lineLit := by
  cases h with
  | line h =>
    obtain ⟨ls, _, h2, rfl⟩ := h
    cases h2 with
    | cons h3 h4 =>
      cases h4 with
      | cons h5 h6 =>
        cases h6
        obtain ⟨a, b, rfl, ha, hb⟩ := h3
        obtain ⟨a2, b2, rfl, ha2, hb2⟩ := h5
        rw [ha.one rfl, hb.two rfl, ha2.three rfl, hb2.four rfl]
        rfl
theorem line_wf : WF (.line [(w1, w2), (w3, w4)]) := .line (by
  intro p hp
  simp at hp
  rcases hp with rfl | rfl
  · exact ⟨⟨by decide, .inl (by decide)⟩, ⟨by decide, .inl (by decide)⟩⟩
  · exact ⟨⟨by decide, .inl (by decide)⟩, ⟨by decide, .inl (by decide)⟩⟩)
set_option maxHeartbeats 4000000 in
set_option maxRecDepth 100000 in
theorem again_any (B : Nat) (s : ByteArray) (w : World) (hG : Glob B w) :
    Calls Tryz.prog 3 #[.string s] w fun e w' => e = .returned (.bool true) ∧ Below w.heap.size w w' := by
  replace hG := hide hG
  go_enter Tryz.func3, Tryz.ntmps3
  by_cases hs : 2147483647 < s.size
  · go_wp2
    go_ret
    exact ⟨rfl, Below.refl _ _⟩
  · have hs2 : s.size ≤ 1099511627775 := by omega
    have hlit : ((tx lineLit).toList == [76, 73, 78, 69, 83, 84, 82, 73, 78, 71, 40, 49, 32, 50, 44, 51, 32, 52, 41]) = true := by
      rw [toList_bs, bs_tx]; rfl
    go_wp2_with (first
      | (go_at_call 5; (with_reducible refine (line_any _).mono ?_); rintro e wa ⟨⟨kd0, lv0, pv0, rfl, hsp0⟩, hba⟩; replace hsp0 := hide hsp0; replace hba := hide hba)
      | (go_at_call 4; refine (write4_any numOut B (.line (ps := [(w1, w2), (w3, w4)])) line_wf (.line (by decide)) _ _ _ _ (hG.out.up hba.out) hsp0.out.stay (by decide)).mono ?_; rintro e wb ⟨⟨s1, rfl, hwt, -⟩, hbb⟩; (obtain rfl : s1 = tx lineLit := by rw [← tx_bs s1, line_text hwt]); replace hbb := hide (hba.out.trans (hbb.mono hba.out.size)); clear hwt))
    have hG1 := hide (hG.out.up hbb.out)
    refine (read_any numIO B s wb hG1.out hs2).mono ?_
    rintro e wc ⟨⟨v, rfl, ⟨kd, lv, pv, g, rfl, hsp, hug⟩ | ⟨rfl, hub⟩⟩, hbc⟩
    · have hbc2 := hide (hbb.out.trans (hbc.mono hbb.out.size))
      obtain ⟨c, hc, hcle⟩ := unr_cost hug
      have hwf := hide (unr_wf hug)
      have hsm := hide (unr_small hug hs2)
      obtain ⟨n0, a1, n1, c1, a2, n2, c2, rfl, rfl, rfl⟩ := hsp.get.cells
      have hc64 : 64 * c ≤ 140737488355328 := by omega
      have hc40 : 64 * c ≤ 1099511627775 := by omega
      have hst := hide hsp.stay
      replace hc := hide hc
      clear hsp hug hsp0 hba hbc
      have hGc := hide (hG.out.up hbc2.out)
      have hbk : ∀ W, Below (wc.heap.size + 1) (wc.alloc (.cells #[.int .i64 n0, .slice a1 n1 c1, .slice a2 n2 c2] 26)) W → W.cell? ⟨wc.heap.size, 0, none⟩ = some (.int .i64 n0) ∧ W.cell? ⟨wc.heap.size, 1, none⟩ = some (.slice a1 n1 c1) ∧ W.cell? ⟨wc.heap.size, 2, none⟩ = some (.slice a2 n2 c2) := fun W hb => by
        have h := (Blk.new wc 26 #[.int .i64 n0, .slice a1 n1 c1, .slice a2 n2 c2]).below hb (by omega)
        exact ⟨h.cell 0, h.cell 1, h.cell 2⟩
      obtain ⟨wd, hwd⟩ : ∃ wd, wc.alloc (.cells #[.int .i64 n0, .slice a1 n1 c1, .slice a2 n2 c2] 26) = wd := ⟨_, rfl⟩
      have hwds : wd.heap.size = wc.heap.size + 1 := by rw [← hwd]; simp
      have hbd : Below wc.heap.size wc wd := by rw [← hwd]; exact below_alloc wc _
      rw [hwd, ← hwds] at hbk
      obtain ⟨z0, z1, z2⟩ := hbk wd (Below.refl _ _)
      replace hbk := hide hbk
      replace hbd := hide hbd
      replace hwd := hide hwd
      replace hwds := hide hwds
      go_wp2_with (fail)
      rw [hwd.out]
      refine (write4_any numOut B hc.out hwf.out hsm.out _ _ _ _ (hGc.out.up hbd.out) (hst.out.below hbd.out) hc64).mono ?_
      rintro e we ⟨⟨s2, rfl, hwt, hs2l⟩, hbe⟩
      have htl := text_law numIO hwt
      rw [tx_bs] at htl
      replace hbe := hide hbe
      go_wp2_with (fail)
      have hGe := hide ((hGc.out.up hbd.out).up hbe.out)
      refine (read_any numIO B s2 we hGe.out (Nat.le_trans hs2l hc40)).mono ?_
      rintro e wf ⟨⟨v, rfl, ⟨kd', lv', pv', g', rfl, hsp', hug'⟩ | ⟨rfl, hub'⟩⟩, hbf⟩
      rotate_left
      · exact absurd hub' htl.2
      have hbf2 := hide (hbe.out.trans (hbf.mono hbe.out.size))
      have hst' := hide hsp'.stay
      rw [htl.1 g' hug'] at hst'
      clear hug' htl hwt
      obtain ⟨n0', a1', n1', c1', a2', n2', c2', rfl, rfl, rfl⟩ := hsp'.get.cells
      clear hsp'
      have hbg := below_alloc wf (.cells #[.int .i64 n0', .slice a1' n1' c1', .slice a2' n2' c2'] 26)
      have hbh := hbf2.out.trans (hbg.mono hbf2.out.size)
      obtain ⟨y0, y1, y2⟩ := hbk.out _ hbh
      have hv1 := hide ((hst.out.below hbd.out).below (by rw [hwds.out]; rw [hwds.out] at hbh; exact hbh.mono (by omega)))
      have hv2 := hide (hst'.out.below hbg)
      have hfin := hide (hbc2.out.trans ((hbd.out.trans (hbh.mono hbd.out.size)).mono hbc2.out.size))
      clear hbf
      replace hbg := hide hbg
      replace hbh := hide hbh
      go_wp2_with (go_at_call 7; refine (same_any hsm.out hc.out (by omega) _ _ _ _ _ _ _ hv2.out hv1.out).mono ?_; rintro e wg ⟨rfl, hbi⟩; replace hbi := hide hbi)
      go_ret
      exact ⟨rfl, hfin.out.trans (hbi.out.mono hfin.out.size)⟩
    · have hbc2 := hide (hbb.out.trans (hbc.mono hbb.out.size))
      clear hbc hub
      go_wp2
      go_ret
      exact ⟨rfl, hbc2.out.trans ((below_alloc wc _).mono hbc2.out.size)⟩
end Go.Proofs.YtgmbjdoifkjdhaaGreatDoor
end
