/- PointsOf: some row of points of bounded length. -/
import Derived.Test.YtgmbjdoifkjdhaaGreatDoorSb
namespace Go.Proofs.YtgmbjdoifkjdhaaGreatDoor
open Go.RowKit

theorem grown_below' {w w' : World} (h : Below w.heap.size w w') : w.grownBy w' none := ⟨h.os, h.tape, h.output, h.size, fun k hk _ => h.block k hk⟩
theorem take_sum_succ {l : List Nat} {k x : Nat} (h : l[k]? = some x) : (l.take (k + 1)).sum = (l.take k).sum + x := by
  rw [List.take_add_one, h]; simp
theorem take_sum_le (l : List Nat) (k : Nat) : (l.take k).sum ≤ l.sum := by
  have : l.sum = (l.take k).sum + (l.drop k).sum := by rw [← List.sum_append, List.take_append_drop]
  omega
/-- The source of an append: nil, or a row whose cells are known. -/
theorem sl_src {u : Value} {ps : List (Nat × Nat)} {w : World} (h : IsSl 2 PtIt u ps w) :
    (∃ cap, u = .slice none 0 cap ∧ ps = []) ∨ ∃ (a : Addr) (cap : Nat) (news : List Value), u = .slice (some a) ps.length cap ∧ news.length = ps.length * 2 ∧ (∀ j x, news[j]? = some x → w.cell? (a.add j) = some x) ∧ ∀ x ∈ news, x.oneCell' = true := by
  obtain ⟨ao, cap, css, h1, h2, h3, h4, h5⟩ := h
  have hlen : css.flatten.length = ps.length * 2 := by
    rw [← h2]
    clear h1 h2 h4 h5
    induction css with
    | nil => rfl
    | cons c t ih =>
      have hc := h3 c (by simp)
      have := ih fun d hd => h3 d (by simp [hd])
      rw [List.flatten_cons, List.length_append, List.length_cons, this, hc]; omega
  have hone : ∀ x ∈ css.flatten, x.oneCell' = true := by
    intro x hx
    obtain ⟨c, hc, hxc⟩ := List.mem_flatten.mp hx
    obtain ⟨i, hi⟩ := List.getElem?_of_mem hc
    have hil : i < ps.length := by rw [← h2]; exact (List.getElem?_eq_some_iff.mp hi).1
    have h6 : c = _ := h5 i c ps[i] hi (List.getElem?_eq_getElem hil)
    rw [h6] at hxc
    simp at hxc
    rcases hxc with rfl | rfl <;> rfl
  cases ao with
  | none =>
    left
    have hps : ps = [] := by
      cases ps with
      | nil => rfl
      | cons p t =>
        have : 0 < css.flatten.length := by rw [hlen]; simp
        obtain ⟨g, hg, _⟩ := h4 0 _ (List.getElem?_eq_getElem this)
        cases hg
    subst hps
    exact ⟨cap, h1, rfl⟩
  | some a =>
    right
    refine ⟨a, cap, css.flatten, h1, hlen, fun j x hj => ?_, hone⟩
    obtain ⟨g, hg, hc⟩ := h4 j x hj
    injection hg with hg
    subst hg
    have hadd : (⟨g, 0, none⟩ : Addr).add j = ⟨g, j, none⟩ := by unfold Addr.add; split <;> simp_all
    rw [hadd]; exact hc
theorem wpList_append_nil_c {P : Program} {w : World} {ops : Array Oper} {rest : List Oper} {o : Oper} {a : Act} {Q : Exit → Act → World → Prop} (hgd : o.guard = none) (s x : Operand) (t : TypeId)
    (ho : o.op = .call { callee := .builtin .append, args := #[s, x], argTypes := #[t, t] })
    (base : Nat) (e : TypeId) (i : TypeInfo) (size : Nat) (ht : P.underlying t = some (.slice e)) (hi : P.info? e = some i)
    (v : Value) (n c : Nat) (xs : List Value) (hs : a.eval s = v) (hown : w.ownsRow base e size v n xs) (hx : a.eval x = .slice none 0 c)
    (h : wpList P ops Q rest (a.put o.dst v) w) : wpList P ops Q (o :: rest) a w := by
  refine wpList_plain hgd fun K hK => ?_
  have hrun : (Builtin.append_ #[t, t] o.type #[v, .slice none 0 c]).run P w = .ok v w := by
    rcases hown.2 with ⟨rfl, rfl⟩ | ⟨g, cap, cur, rfl, _, _, hnc, _⟩
    · simp [Builtin.append_, run_underlying ht, sizeOf, typeInfo, hi, Builtin.lenOf, Builtin.firstCells]
    · simp [Builtin.append_, run_underlying ht, sizeOf, typeInfo, hi, Builtin.lenOf, Builtin.firstCells, hnc, storeCells]
  unfold Oper.wp
  simp [execOp, ho, resolve, invoke, builtin, hs, hx, hrun, Result.andThen]
  exact hK _ _ h
/-- The source is some row of a call's own. -/
theorem wpList_append_rows {w : World} {ops : Array Oper} {rest : List Oper} {o : Oper} {a : Act} {Q : Exit → Act → World → Prop} {i0 : TypeInfo} (hi : Tryz.prog.info? 38 = some i0) (hz0 : i0.zero = some (.agg #[.float .f64 0, .float .f64 0])) (hz1 : i0.size = 2) (hz2 : i0.bytes = 16)
    (hgd : o.guard = none) (s x : Operand) (ho : o.op = .call { callee := .builtin .append, args := #[s, x], argTypes := #[39, 39] })
    (base : Nat) (v : Value) (m : Nat) (xs : List Value) (hs : a.eval s = v) (hown : w.ownsRow base 38 2 v m xs) (base2 : Nat) (v2 : Value) (m2 : Nat) (xs2 : List Value) (hx : a.eval x = v2) (hown2 : w.ownsRow base2 38 2 v2 m2 xs2) (h1 : ∀ u ∈ xs2, u.oneCell' = true)
    (hb : m + m2 ≤ 8796093022208) (hbase : base ≤ w.heap.size) (h : ∀ v' w', w'.ownsRow base 38 2 v' (m + m2) (xs ++ xs2) → w.grownBy w' v.ownBlock → wpList Tryz.prog ops Q rest (a.put o.dst v') w') : wpList Tryz.prog ops Q (o :: rest) a w := by
  have hl := hown2.1
  rcases hown2.2 with ⟨rfl, rfl⟩ | ⟨g2, cap2, cur, rfl, _⟩
  · have : xs2 = [] := List.eq_nil_of_length_eq_zero (by omega)
    subst this
    exact wpList_append_nil_c hgd s x 39 ho base 38 i0 2 under39 hi v m 0 xs hs hown hx (h v w (by simpa using hown) (World.grownBy.refl w _))
  · exact wpList_append_own _ hgd s x 39 ho base 38 i0 (.agg #[.float .f64 0, .float .f64 0]) 2 16 under39 hi hz0 hz1 hz2 rfl (by decide) v m xs hs hown ⟨g2, 0, none⟩ m2 cap2 xs2 hx hl (hown2.cells (g := g2) rfl) h1 (by unfold maxLen; omega) (by omega) hbase fun v' w' q1 q2 _ => h v' w' q1 q2
/-- A row under way. -/
def PoSt (base : Nat) (w0 : World) (bound : Nat) (v : Value) (wr : World) : Prop := ∃ m xs, m ≤ bound ∧ wr.ownsRow base 38 2 v m xs ∧ (∀ u ∈ xs, u.oneCell' = true) ∧ Below base w0 wr ∧ base ≤ wr.heap.size
theorem PoSt.put {base bound m m2 : Nat} {w0 wr w2 w' : World} {v v' : Value} {xs news : List Value} (hm : m + m2 ≤ bound) (ho : w2.ownsRow base 38 2 v m xs) (h1 : ∀ u ∈ xs, u.oneCell' = true) (h2 : ∀ u ∈ news, u.oneCell' = true) (hb : Below base w0 wr) (hbs : base ≤ wr.heap.size) (h12 : Below wr.heap.size wr w2)
    (ho' : w'.ownsRow base 38 2 v' (m + m2) (xs ++ news)) (hg : w2.grownBy w' v.ownBlock) : PoSt base w0 bound v' w' :=
  ⟨_, _, hm, ho', fun u hu => by
    rcases List.mem_append.mp hu with h | h
    · exact h1 u h
    · exact h2 u h, (hb.trans (h12.mono hbs)).grown hg (Nat.le_trans hbs h12.size) (fun p hp => (ho.lt p hp).1), Nat.le_trans hbs (Nat.le_trans h12.size hg.size)⟩
def POut (n : Nat) (w : World) (e : Ending) (w' : World) : Prop := (∃ v base m xs, e = .returned v ∧ m ≤ n ∧ w.heap.size ≤ base ∧ w'.ownsRow base 38 2 v m xs ∧ ∀ u ∈ xs, u.oneCell' = true) ∧ Below w.heap.size w w'
/-- So many points at the most. -/
def PPts (g : Geom) (n : Nat) : Prop := ∀ (kd lv pv : Value) (w : World), Stay (fun w => ShpIs w [kd, lv, pv] g) w → Calls Tryz.prog 12 #[.agg #[kd, lv, pv]] w (POut n w)
set_option maxHeartbeats 4000000 in
set_option maxRecDepth 100000 in
theorem po_step (g : Geom) (n : Nat) (ns : List Nat) (hns : ns.length = (partsG g).length) (hsum : ((listsG g).map List.length).sum + ns.sum ≤ n) (hn : n ≤ 8796093022208) (hl : (listsG g).length ≤ 1099511627776) (hp : (partsG g).length ≤ 1099511627776)
    (hparts : ∀ (i : Nat) (g' : Geom) (n' : Nat), (partsG g)[i]? = some g' → ns[i]? = some n' → PPts g' n') : PPts g n := by
  intro kd lv pv w hv
  obtain ⟨i0, hi, hz0, hz1, hz2⟩ := info_parts info38
  obtain ⟨rfl, ⟨a1, c1, rfl, hr1⟩, ⟨a2, c2, rfl, hp1⟩⟩ := view_of hv
  clear hv
  obtain ⟨K, hK⟩ : ∃ K, kindG g = K := ⟨_, rfl⟩
  obtain ⟨rs, hrs⟩ : ∃ rs, listsG g = rs := ⟨_, rfl⟩
  obtain ⟨gs, hgs⟩ : ∃ gs, partsG g = gs := ⟨_, rfl⟩
  rw [hrs] at hl hsum hr1
  rw [hgs] at hp hns hparts hp1
  rw [hK, hrs, hgs]
  clear hK hrs hgs
  obtain ⟨ls, hls⟩ : ∃ ls, rs.map List.length = ls := ⟨_, rfl⟩
  rw [hls] at hsum
  replace hr1 := hide hr1
  replace hp1 := hide hp1
  replace hparts := hide hparts
  replace hls := hide hls
  replace hsum := hide hsum
  replace hns := hide hns
  obtain ⟨w0, hw0⟩ : ∃ w0, w.alloc (.cells #[.int .i64 K, .slice a1 rs.length c1, .slice a2 gs.length c2] 26) = w0 := ⟨_, rfl⟩
  have hA : Hid (Blk w0 w.heap.size 26 #[.int .i64 K, .slice a1 rs.length c1, .slice a2 gs.length c2]) := hide (by rw [← hw0]; exact Blk.new w 26 _)
  have hb0 : Hid (Below w.heap.size w w0) := hide (by rw [← hw0]; exact below_alloc w _)
  have hw0s : Hid (w0.heap.size = w.heap.size + 1) := hide (by rw [← hw0]; simp)
  have hst : Hid (PoSt w0.heap.size w0 0 (.slice (some ⟨w.heap.size + 1, 0, none⟩) 0 0) (w0.alloc (.cells #[] 38))) := hide (by
    rw [← hw0s.out]
    exact ⟨0, [], Nat.le_refl _, World.ownsRow_made (base := w0.heap.size) (e := 38) (size := 2) w0 #[] 0 (Nat.le_refl _) (by decide) rfl, by simp, below_alloc w0 _, by simp⟩)
  have hA0 : ∀ wr, Below w0.heap.size w0 wr → wr.cell? ⟨w.heap.size, 1, none⟩ = some (.slice a1 rs.length c1) ∧ wr.cell? ⟨w.heap.size, 2, none⟩ = some (.slice a2 gs.length c2) := fun wr hb => by
    have h := hA.out.below hb (by rw [hw0s.out]; omega)
    exact ⟨h.cell 1, h.cell 2⟩
  have hW : ∀ wr, Below w0.heap.size w0 wr → Below w.heap.size w wr := fun wr hb => hb0.out.trans (hb.mono (by rw [hw0s.out]; omega))
  replace hA0 := hide hA0
  replace hW := hide hW
  clear hA hb0
  replace hw0 := hide hw0
  go_enter Tryz.func12, Tryz.ntmps12
  go_wp2
  rw [hw0.out]
  clear hw0
  have hlsum := take_sum_le ls
  have hnsum := take_sum_le ns
  replace hlsum := hide hlsum
  replace hnsum := hide hnsum
  go_loopw [3, 5, 12] (fun s3 _ s12 wr => ∃ (k : Nat) (v : Value), k ≤ rs.length ∧ s12 = .int .i64 k ∧ v = s3 ∧ Hid (PoSt w0.heap.size w0 (ls.take k).sum v wr)) (fun _ _ s12 _ => rs.length - (intOf s12).toNat)
  case atStart => exact ⟨0, _, Nat.zero_le _, rfl, rfl, by simpa using hst⟩
  case round =>
    obtain ⟨k, v, hk, rfl, rfl, hS⟩ := hrel
    obtain ⟨m, xs, hm, hown, hone, hbr, hbs⟩ := hS.out
    by_cases hlt : k < rs.length
    · obtain ⟨ps, hps⟩ : ∃ p, rs[k]? = some p := ⟨_, List.getElem?_eq_getElem hlt⟩
      obtain ⟨b1, u1, rfl, h1, h2⟩ := hr1.out k ps hps
      have hww := hW.out _ hbr
      replace h1 := cell_up hww h1
      have hlk : ls[k]? = some ps.length := by rw [← hls.out, List.getElem?_map, hps]; rfl
      have hts := take_sum_succ hlk
      have hms : m + ps.length ≤ (ls.take (k + 1)).sum := by omega
      have hmn : m + ps.length ≤ 8796093022208 := by
        have := hlsum.out (k + 1)
        have := hsum.out
        omega
      obtain ⟨g1, g2⟩ := hA0.out _ hbr
      have hfin : ∀ (v' : Value) (w' : World), Hid (PoSt w0.heap.size w0 (ls.take (k + 1)).sum v' w') → Hid (PoSt w0.heap.size w0 (ls.take (k + 1)).sum v' w') := fun _ _ h => h
      replace hms := hide hms
      replace hm := hide hm
      rcases sl_src (h2 _ hww) with ⟨cap, rfl, rfl⟩ | ⟨q, cap, news, rfl, hnl, hnc, hno⟩
      · have hS2 : Hid (PoSt w0.heap.size w0 (ls.take (k + 1)).sum v wr) := hide ⟨m, xs, by have := hms.out; simp at this; exact this, hown, hone, hbr, hbs⟩
        replace hown := hide hown
        replace hone := hide hone
        replace hbr := hide hbr
        clear h2 hww hlk hts hmn hps hfin
        go_wp2_with (first
          | (at_builtin; refine wpList_append_nil_c rfl _ _ 39 rfl w0.heap.size 38 i0 2 under39 hi v m cap xs rfl hown.out rfl ?_))
        exact ⟨⟨k + 1, v, hlt, rfl, rfl, hS2⟩, by simp [intOf]; omega⟩
      · replace hown := hide hown
        replace hone := hide hone
        replace hbr := hide hbr
        replace hnl := hide hnl
        replace hnc := hide hnc
        replace hno := hide hno
        clear h2 hww hlk hts hps hfin
        go_wp2_with (first
          | (at_builtin; refine wpList_append_own _ rfl _ _ 39 rfl w0.heap.size 38 i0 (.agg #[.float .f64 0, .float .f64 0]) 2 16 under39 hi hz0 hz1 hz2 rfl (by decide) v m xs rfl hown.out q ps.length cap news rfl hnl.out hnc.out hno.out (by unfold maxLen; omega) (by omega) hbs ?_; intro v' w2 ho hg _; (have hS2 : Hid (PoSt w0.heap.size w0 (ls.take (k + 1)).sum v' w2) := hide (PoSt.put hms.out hown.out hone.out hno.out hbr.out hbs (Below.refl _ _) ho hg)); clear ho hg))
        exact ⟨⟨k + 1, v', hlt, rfl, rfl, hS2⟩, by simp [intOf]; omega⟩
    · have hk2 : k = rs.length := by omega
      subst hk2
      obtain ⟨g1, g2⟩ := hA0.out _ hbr
      have hS1 : Hid (PoSt w0.heap.size w0 (ls.sum + (ns.take 0).sum) v wr) := hide ⟨m, xs, by have := hlsum.out rs.length; omega, hown, hone, hbr, hbs⟩
      clear hm hown hone hbr hbs hS
      go_wp2
      clear g1 g2
      go_loopw [3, 23] (fun s3 s23 wr => ∃ (k : Nat) (v : Value), k ≤ gs.length ∧ s23 = .int .i64 k ∧ v = s3 ∧ Hid (PoSt w0.heap.size w0 (ls.sum + (ns.take k).sum) v wr)) (fun _ s23 _ => gs.length - (intOf s23).toNat)
      case atStart => exact ⟨0, v, Nat.zero_le _, rfl, rfl, hS1⟩
      case round =>
        obtain ⟨k, v, hk, rfl, rfl, hS⟩ := hrel
        obtain ⟨m, xs, hm, hown, hone, hbr, hbs⟩ := hS.out
        by_cases hlt : k < gs.length
        · obtain ⟨g', hg'⟩ : ∃ p, gs[k]? = some p := ⟨_, List.getElem?_eq_getElem hlt⟩
          obtain ⟨n', hn'⟩ : ∃ p, ns[k]? = some p := ⟨_, List.getElem?_eq_getElem (by rw [hns.out]; exact hlt)⟩
          obtain ⟨b1, kd1, lv1, pv1, rfl, h1, h2, h3, h4⟩ := hp1.out k g' hg'
          have hww := hW.out _ hbr
          have hIH : Hid (∀ o, Calls Tryz.prog 12 #[.agg #[kd1, lv1, pv1]] (wr.alloc o) (POut n' (wr.alloc o))) := hide fun o => hparts.out k g' n' hg' hn' _ _ _ _ ((h4.below hww).below (below_alloc wr _))
          replace h1 := cell_up hww h1
          replace h2 := cell_up hww h2
          replace h3 := cell_up hww h3
          obtain ⟨n0, x1, n1, y1, x2, n2, y2, rfl, rfl, rfl⟩ := h4.get.cells
          have hts := take_sum_succ hn'
          have hmn : ∀ m2, m2 ≤ n' → m + m2 ≤ ls.sum + (ns.take (k + 1)).sum ∧ m + m2 ≤ 8796093022208 := fun m2 h => by
            have := hnsum.out (k + 1)
            have := hsum.out
            omega
          replace hmn := hide hmn
          replace hm := hide hm
          replace hown := hide hown
          replace hone := hide hone
          replace hbr := hide hbr
          clear h4 hww hg' hn' hts
          go_wp2_with (first
            | (go_at_call 12; refine (hIH.out _).mono ?_; rintro e w2 ⟨⟨v2, base2, m2, xs2, rfl, hm2, hbase2, hown2, hone2⟩, hb2⟩; (have hb3 := hide ((below_alloc wr _).trans (hb2.mono (by simp)))); (have hown3 := hide (hown.out.kept (grown_below' hb3.out) (by cases v.ownBlock <;> simp))); (have hmm := hide (hmn.out m2 hm2)); (have hbs2 := hide (Nat.le_trans hbs hb3.out.size)); replace hown2 := hide hown2; replace hone2 := hide hone2; clear hb2 hm2 hbase2)
            | (at_builtin; refine wpList_append_rows hi hz0 hz1 hz2 rfl _ _ rfl w0.heap.size v m xs rfl hown3.out base2 v2 m2 xs2 rfl hown2.out hone2.out hmm.out.2 hbs2.out ?_; intro v' w3 ho hg; (have hS2 : Hid (PoSt w0.heap.size w0 (ls.sum + (ns.take (k + 1)).sum) v' w3) := hide (PoSt.put hmm.out.1 hown3.out hone.out hone2.out hbr.out hbs hb3.out ho hg)); clear ho hg))
          exact ⟨⟨k + 1, v', hlt, rfl, rfl, hS2⟩, by simp [intOf]; omega⟩
        · have hk2 : k = gs.length := by omega
          subst hk2
          have hWr := hW.out _ hbr
          have hfin : Hid (POut n w (.returned v) wr) := hide ⟨⟨v, w0.heap.size, m, xs, rfl, by have := hnsum.out gs.length; have := hsum.out; omega, by rw [hw0s.out]; omega, hown, hone⟩, hWr⟩
          clear hm hown hone hbr hbs hS hWr
          go_wp2
          go_ret
          exact hfin.out
theorem le_sum_at {l : List Nat} {k x : Nat} (h : l[k]? = some x) : x ≤ l.sum := by
  have h1 := take_sum_succ h
  have h2 := take_sum_le l (k + 1)
  omega
theorem crow_ge (rs : List (List (Nat × Nat))) : (rs.map List.length).sum ≤ crow rs := by
  induction rs with
  | nil => simp [crow]
  | cons r t ih =>
    unfold crow at ih ⊢
    simp only [List.map_cons, List.sum_cons]
    omega
theorem po_any {g : Geom} (hs : Small g) : ∀ c, Cost g c → c ≤ 8796093022208 → PPts g c := by
  have leaf : ∀ (g : Geom) (c : Nat), partsG g = [] → (listsG g).length ≤ 1099511627776 → ((listsG g).map List.length).sum ≤ c → c ≤ 8796093022208 → PPts g c := fun g c hp hl hc hn =>
    po_step g c [] (by rw [hp]; rfl) (by simpa using hc) hn hl (by rw [hp]; simp) (fun i g' n' h => by rw [hp] at h; simp at h)
  induction hs with
  | @pt p => intro c hc hn; cases hc; exact leaf _ _ rfl (by simp [listsG]) (by simp [listsG]) hn
  | @line ps h => intro c hc hn; cases hc; exact leaf _ _ rfl (by simp [listsG]) (by simp [listsG]) hn
  | @poly rs h h2 => intro c hc hn; cases hc; exact leaf _ _ rfl h (by have := crow_ge rs; simp only [listsG]; omega) hn
  | @mpt ps h => intro c hc hn; cases hc; exact leaf _ _ rfl (by simp [listsG]) (by simp [listsG]) hn
  | @mline rs h h2 => intro c hc hn; cases hc; exact leaf _ _ rfl h (by have := crow_ge rs; simp only [listsG]; omega) hn
  | @mpoly xs h h2 =>
    intro c hc hn
    cases hc
    refine po_step _ _ (xs.map fun rs => crow rs + 1) (by simp [partsG]) (by simp [listsG, cpol]) hn (by simp [listsG]) (by simpa [partsG] using h) (fun i g' n' hg hn' => ?_)
    have hg2 : (xs.map Geom.poly)[i]? = some g' := hg
    rw [List.getElem?_map] at hg2
    obtain ⟨rs, hrs, rfl⟩ := Option.map_eq_some_iff.mp hg2
    have hn2 := le_sum_at hn'
    rw [List.getElem?_map, hrs] at hn'
    injection hn' with hn'
    subst hn'
    have h3 := h2 rs (List.mem_of_getElem? hrs)
    refine leaf _ _ rfl h3.1 (by have := crow_ge rs; simp only [listsG]; omega) ?_
    unfold cpol at hn
    omega
  | @coll gs h h2 ih =>
    intro c hc hn
    cases hc with
    | @coll gs cs hl hcs =>
      refine po_step _ _ cs hl (by simp [listsG]) hn (by simp [listsG]) h (fun i g' n' hg hn' => ?_)
      have := le_sum_at hn'
      exact ih i g' hg n' (hcs i g' n' hg hn') (by omega)
end Go.Proofs.YtgmbjdoifkjdhaaGreatDoor
