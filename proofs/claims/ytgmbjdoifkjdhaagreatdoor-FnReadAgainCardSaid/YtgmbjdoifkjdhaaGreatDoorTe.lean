/- laws.FnReadAgain answers true at every text, and the text and the two named error variables read afterwards as they read before. Conditions: the listed package-level variables read as the program's text lays them (the card ties them); nothing else. What the row's list gives the walks: 'Glob' at the heap's size. 'Glob' out of the row's list. FnReadAgain: the row and the tied card. -/
import Derived.Test.YtgmbjdoifkjdhaaGreatDoorKb
import Derived.Lib.LaidU8
import Derived.LaidLaws
import Derived.OpenShut
import Derived.Test.YtgmbjdoifkjdhaaGreatDoorRows
import Derived.Test.YtgmbjdoifkjdhaaGreatDoorSd
import Derived.Test.YtgmbjdoifkjdhaaGreatDoorCards
import Derived.Test.YtgmbjdoifkjdhaaGreatDoorTie
import Derived.ProofKit
import Derived.LaidMore
import Derived.OpenVars
import Derived.ChangeMaps5
import Derived.Lay
import Derived.Stop.LaidErr
import Derived.Stop.Joined
import Derived.MakeChecks
import Derived.SevenTiedAt
section
namespace Go.Proofs.YtgmbjdoifkjdhaaGreatDoor
open Go.RowKit Go.ChangeShapes Go.WideShapes

theorem laid_places {P : Program} {w : World} : ∀ {l : List (String × DataW Unit)} {ps : List MemPlace}, DataW.LaidVars P w l ps → ∀ n d, (n, d) ∈ l → ∃ g cs, P.globalNamed n = some g ∧ w.var? P n = some cs ∧ ∀ i, i < cs.size → MemPlace.cell g i ∈ ps
  | [], _, _, _, _, hm => by cases hm
  | (n', d') :: r, ps, h, n, d, hm => by
    obtain ⟨g, t, cs, fuel, p, q, h1, h2, h3, h4, h5, rfl⟩ := h
    rcases List.mem_cons.1 hm with e | e
    · cases e
      exact ⟨g, cs, h1, h3, fun i hi => by simp [MemPlace.row]; exact .inl hi⟩
    · obtain ⟨g', cs', k1, k2, k3⟩ := laid_places h5 n d e
      exact ⟨g', cs', k1, k2, fun i hi => by rw [List.mem_append]; exact .inr (k3 i hi)⟩
theorem laid_block {P : Program} {w : World} {l : List (String × DataW Unit)} (h : laidMet P l w) {n : String} {d : DataW Unit} (hm : (n, d) ∈ l) {g : Nat} (hg : P.globalNamed n = some g) {v : Value} (hv : w.cell? ⟨g, 0, none⟩ = some v) : ∃ cs t, w.heap[g]? = some (.cells cs t (0, 0)) := by
  obtain ⟨ps, h1, _, h3⟩ := h
  obtain ⟨g', cs, k1, k2, k3⟩ := laid_places h1 n d hm
  obtain rfl := Option.some.inj (hg.symm.trans k1)
  rw [World.var?_cell hg k2 0] at hv
  have hlt : 0 < cs.size := by
    rcases Nat.eq_zero_or_pos cs.size with e | e
    · rw [Array.getElem?_eq_none (by omega)] at hv; cases hv
    · exact e
  exact (h3 _ _ (k3 0 hlt)).1
theorem cell_in_heap {w : World} {b o : Nat} {v : Value} (h : w.cell? ⟨b, o, none⟩ = some v) : b < w.heap.size := by
  rcases Nat.lt_or_ge b w.heap.size with k | k
  · exact k
  · simp [World.cell?, Array.getElem?_eq_none k] at h

theorem slice_reads {P : Program} {w : World} {name : String} {g : Nat} {t e : TypeId} {c : Nat} {es : List (DataW Unit)} (hn : P.globalNamed name = some g) (hy : (P.globals[g]?).map (·.type) = some t)
    (ht : P.underlying t = some (.slice e)) (hc : P.cellsOf e = c) (hc0 : 0 < c) (hl : 0 < es.length) (h : Lib.VarReads P w name (.slice es [])) :
    ∃ b o, b < w.heap.size ∧ w.cell? ⟨g, 0, none⟩ = some (.slice (some ⟨b, o, none⟩) es.length es.length) ∧
      ∀ i, i < es.length → ∃ ce fuel q x, es[i]? = some x ∧ DataW.trod (fun _ => ()) P w 0 (fun _ => true) false fuel e ce = some (x, q) ∧ ∀ j, j < c → w.cell? ⟨b, o + i * c + j, none⟩ = ce[j]? := by
  obtain ⟨g', t', cs, fuel, p, hg, hty, hvar, hd⟩ := h
  obtain rfl := Option.some.inj (hn.symm.trans hg)
  obtain rfl := Option.some.inj (hy.symm.trans hty)
  rcases DataW.trod_slice ht hd with ⟨_, hx⟩ | ⟨a, len, cap, el, rs, m, rfl, hcs, hx, _, hlc, _, hel, helem, hsp, _⟩
  · cases hx
  have e0 := congrArg Prod.fst hx
  simp only [DataW.slice.injEq] at e0
  obtain ⟨eE, eR⟩ := e0
  have hlen : len = es.length := by
    have := congrArg List.length eE
    simp at this
    omega
  have hcap : cap = es.length := by
    have h1 := (hsp rfl).1
    have h2 := congrArg List.length eR
    simp at h2
    omega
  subst hlen
  subst hcap
  rw [hc] at helem
  have hget : ∀ i, i < es.length → ∃ ce fuel q x, es[i]? = some x ∧ DataW.trod (fun _ => ()) P w 0 (fun _ => true) false fuel e ce = some (x, q) ∧ ce.length = c ∧ ∀ j, j < c → w.cell? ((a.add (i * c)).add j) = ce[j]? := by
    intro i hi
    have h1 := helem i (by omega)
    obtain ⟨b, hb⟩ : ∃ b, el[i]? = some b := ⟨el[i]'(by omega), List.getElem?_eq_getElem (by omega)⟩
    rw [hb] at h1
    obtain ⟨ce, hce, hte⟩ := Option.bind_eq_some_iff.1 h1
    obtain ⟨_, hl2, hcc⟩ := World.cells?_some hce
    refine ⟨ce, m, b.2, b.1, ?_, hte, hl2, hcc⟩
    rw [eE, List.getElem?_map, hb]; rfl
  obtain ⟨R, o, sR⟩ := a
  obtain rfl : sR = none := by
    obtain ⟨ce, _, _, _, _, _, hl2, hcc⟩ := hget 0 hl
    have h00 := hcc 0 hc0
    have : (Addr.add (Addr.add ⟨R, o, sR⟩ (0 * c)) 0) = ⟨R, o, sR⟩ := by simp [Addr.add]
    rw [this, List.getElem?_eq_getElem (by omega)] at h00
    exact Go.Proofs.cell_spot h00
  have hget2 : ∀ i, i < es.length → ∃ ce fuel q x, es[i]? = some x ∧ DataW.trod (fun _ => ()) P w 0 (fun _ => true) false fuel e ce = some (x, q) ∧ ce.length = c ∧ ∀ j, j < c → w.cell? ⟨R, o + i * c + j, none⟩ = ce[j]? := by
    intro i hi
    obtain ⟨ce, f, q, x, k1, k2, k3, k4⟩ := hget i hi
    refine ⟨ce, f, q, x, k1, k2, k3, fun j hj => ?_⟩
    have := k4 j hj
    rwa [Addr.add_lit, Addr.add_lit] at this
  refine ⟨R, o, ?_, ?_, fun i hi => ?_⟩
  · obtain ⟨ce, _, _, _, _, _, hl2, hcc⟩ := hget2 0 hl
    have h00 := hcc 0 hc0
    rw [List.getElem?_eq_getElem (by omega)] at h00
    exact cell_in_heap h00
  · rw [World.var?_cell hg hvar 0, ← Array.getElem?_toList, hcs]
    rfl
  · obtain ⟨ce, f, q, x, k1, k2, k3, k4⟩ := hget2 i hi
    exact ⟨ce, f, q, x, k1, k2, k4⟩
theorem trod_float {P : Program} {w : World} {b : Nat} {k : FloatKind} {t : TypeId} {fuel : Nat} {cs : List Value} {q : List MemPlace} {sp : Nat → Bool} (ht : P.underlying t = some (.float k)) (h : DataW.trod (fun _ => ()) P w 0 sp false fuel t cs = some (.lit (.float k b), q)) : cs = [.float k b] := by
  cases fuel with
  | zero => simp [DataW.trod] at h
  | succ n =>
    unfold DataW.trod at h
    rw [ht] at h
    split at h <;> simp_all
end Go.Proofs.YtgmbjdoifkjdhaaGreatDoor
end
section
namespace Go.Proofs.YtgmbjdoifkjdhaaGreatDoor
open Go.RowKit Go.ChangeShapes Go.WideShapes

set_option maxRecDepth 100000
theorem powtab_eq : (Rows.laid_internal_strconv_powtab : DataW Unit) = .slice ((List.range 9).map fun i => .lit (.int .i64 (powtabN i))) [] := by kernel_rfl
theorem pw_eq : (Rows.laid_internal_strconv_float64pow10 : DataW Unit) = .slice ((List.range 23).map fun i => .lit (.float .f64 (Fl.pw i))) [] := by kernel_rfl
theorem fold_eq : (Rows.laid_unicode_asciiFold : DataW Unit) = Lib.tabData .u16 ((List.range 128).map fun i => (foldN i : Int)) := by kernel_rfl
theorem tab_eq : (Rows.laid_internal_strconv_uint64pow10 : DataW Unit) = Lib.tabData .u64 Lib.pow10Tab := by kernel_rfl
theorem tabIs_reads {P : Program} {W : World} {name : String} {k : IntKind} {zs : List Int} {g : Nat} {t e : TypeId} {n : Nat}
    (hg : P.globalNamed name = some g) (hty : (P.globals[g]?).map (·.type) = some t) (ht : P.underlying t = some (.array n e)) (he : P.underlying e = some (.int k)) (hce : P.cellsOf e = 1) (hct : P.cellsOf t = n)
    (h : Lib.VarReads P W name (Lib.tabData k zs)) : Lib.TabIs P W name k zs := by
  obtain ⟨g', t', cs, fuel, p, hg', ht', hvar, hd⟩ := h
  obtain rfl := Option.some.inj (hg.symm.trans hg')
  obtain rfl := Option.some.inj (hty.symm.trans ht')
  unfold Lib.TabIs
  rw [hvar, ← Lib.cells_of_tab ht he hce hct hd]
theorem iface_reads {P : Program} {W : World} {name nm : String} {d : DataW Unit} {g : Nat} {t : TypeId} {ms : Array (String × TypeId)}
    (hg : P.globalNamed name = some g) (hty : (P.globals[g]?).map (·.type) = some t) (ht : P.underlying t = some (.interface ms)) (h : Lib.VarReads P W name (.iface nm d)) : ∃ t p, W.cell? ⟨g, 0, none⟩ = some (.iface t p) := by
  obtain ⟨g', t', cs, fuel, p, hg', ht', hvar, hd⟩ := h
  obtain rfl := Option.some.inj (hg.symm.trans hg')
  obtain rfl := Option.some.inj (hty.symm.trans ht')
  obtain ⟨_, u, v, hcs, _, _⟩ := iface_of_trod ht hd
  exact ⟨u, v, by rw [World.var?_cell hg hvar 0, ← Array.getElem?_toList, hcs]; rfl⟩
theorem bool_reads {P : Program} {W : World} {name : String} {b : Bool} {g : Nat} {t : TypeId}
    (hg : P.globalNamed name = some g) (hty : (P.globals[g]?).map (·.type) = some t) (ht : P.underlying t = some .bool) (h : Lib.VarReads P W name (.lit (.bool b))) : W.cell? ⟨g, 0, none⟩ = some (.bool b) := by
  obtain ⟨g', t', cs, fuel, p, hg', ht', hvar, hd⟩ := h
  obtain rfl := Option.some.inj (hg.symm.trans hg')
  obtain rfl := Option.some.inj (hty.symm.trans ht')
  obtain ⟨b', hcs, hx⟩ := DataW.trod_bool ht hd
  simp only [Prod.mk.injEq, DataW.lit.injEq, Lit.bool.injEq] at hx
  rw [World.var?_cell hg hvar 0, ← Array.getElem?_toList, hcs, hx.1]; rfl
theorem info_reads {W : World} (h : Lib.VarReads Tryz.prog W "internal/strconv.float64info" Rows.laid_internal_strconv_float64info) :
    W.cell? ⟨14, 0, none⟩ = some (.int .u64 52) ∧ W.cell? ⟨14, 1, none⟩ = some (.int .u64 11) ∧ W.cell? ⟨14, 2, none⟩ = some (.int .i64 (-1023)) := by
  obtain ⟨g', t', cs, fuel, p, hg', ht', hvar, hd⟩ := h
  obtain rfl := Option.some.inj ((show Tryz.prog.globalNamed "internal/strconv.float64info" = some 14 by kernel_rfl).symm.trans hg')
  obtain rfl := Option.some.inj ((show (Tryz.prog.globals[14]?).map (·.type) = some 213 by kernel_rfl).symm.trans ht')
  obtain ⟨xs, n, rfl, hx, hl, hxl, hf⟩ := DataW.trod_struct Tryz.underlying213 hd
  have c136 : Tryz.prog.cellsOf 136 = 1 := by kernel_rfl
  have c3 : Tryz.prog.cellsOf 3 = 1 := by kernel_rfl
  have hx1 := congrArg Prod.fst hx
  simp only [Rows.laid_internal_strconv_float64info, DataW.agg.injEq] at hx1
  obtain ⟨x0, x1, x2, rfl⟩ : ∃ x0 x1 x2, xs = [x0, x1, x2] := by
    match xs, hx1 with
    | [x0, x1, x2], _ => exact ⟨x0, x1, x2, rfl⟩
  simp only [List.map_cons, List.map_nil, List.cons.injEq, and_true] at hx1
  obtain ⟨e0, e1, e2⟩ := hx1
  have f0 := hf 0 _ rfl
  have f1 := hf 1 _ rfl
  have f2 := hf 2 _ rfl
  change DataW.trod _ _ _ _ _ _ _ 136 ((cs.toList.drop 0).take (Tryz.prog.cellsOf 136)) = some x0 at f0
  change DataW.trod _ _ _ _ _ _ _ 136 ((cs.toList.drop 1).take (Tryz.prog.cellsOf 136)) = some x1 at f1
  change DataW.trod _ _ _ _ _ _ _ 3 ((cs.toList.drop 2).take (Tryz.prog.cellsOf 3)) = some x2 at f2
  rw [c136] at f0 f1
  rw [c3] at f2
  obtain ⟨n0, k0, r0, _⟩ := DataW.trod_int Tryz.underlying136 f0
  obtain ⟨n1, k1, r1, _⟩ := DataW.trod_int Tryz.underlying136 f1
  obtain ⟨n2, k2, r2, _⟩ := DataW.trod_int Tryz.underlying3 f2
  rw [r0] at e0
  rw [r1] at e1
  rw [r2] at e2
  simp only [DataW.lit.injEq, Lit.int.injEq, true_and] at e0 e1 e2
  subst e0
  subst e1
  subst e2
  have g0 := congrArg (·[0]?) k0
  have g1 := congrArg (·[0]?) k1
  have g2 := congrArg (·[0]?) k2
  simp only [List.getElem?_take, List.getElem?_drop] at g0 g1 g2
  refine ⟨?_, ?_, ?_⟩
  · rw [World.var?_cell hg' hvar, ← Array.getElem?_toList]; simpa using g0
  · rw [World.var?_cell hg' hvar, ← Array.getElem?_toList]; simpa using g1
  · rw [World.var?_cell hg' hvar, ← Array.getElem?_toList]; simpa using g2
theorem pow10_reads {W : World} (h : Lib.VarReads Tryz.prog W "internal/strconv.pow10Tab" Go.Pinned.pow10Tab) (i : Nat) (hi : i < 696) :
    W.cell? ⟨15, i * 2, none⟩ = some (.int .u64 (Fl.hiT i)) ∧ W.cell? ⟨15, i * 2 + 1, none⟩ = some (.int .u64 (Fl.loT i)) := by
  obtain ⟨g', t', cs, fuel, p, hg', ht', hvar, hd⟩ := h
  obtain rfl := Option.some.inj ((show Tryz.prog.globalNamed "internal/strconv.pow10Tab" = some 15 by kernel_rfl).symm.trans hg')
  obtain rfl := Option.some.inj ((show (Tryz.prog.globals[15]?).map (·.type) = some 235 by kernel_rfl).symm.trans ht')
  have hlen : Go.Pinned.pow10Rows.length = 696 := by kernel_rfl
  have c234 : Tryz.prog.cellsOf 234 = 2 := by kernel_rfl
  have c127 : Tryz.prog.cellsOf 127 = 1 := by kernel_rfl
  unfold Go.Pinned.pow10Tab at hd
  obtain ⟨fuel', d, q, hdi, he⟩ := Lib.array_elem Tryz.underlying235 hd i hi
  obtain ⟨x, hx⟩ : ∃ x, Go.Pinned.pow10Rows[i]? = some x := ⟨Go.Pinned.pow10Rows[i]'(by omega), List.getElem?_eq_getElem (by omega)⟩
  rw [List.getElem?_map, hx] at hdi
  simp only [Option.map_some, Option.some.injEq] at hdi
  subst hdi
  rw [c234] at he
  have hcs := Lib.ints_of_struct (zs := [(x.1 : Int), (x.2 : Int)]) Tryz.underlying234 (fun j f hj => by
    match j, hj with
    | 0, hj => simp at hj; subst hj; exact ⟨Tryz.underlying127, rfl, c127⟩
    | 1, hj => simp at hj; subst hj; exact ⟨Tryz.underlying127, rfl, c127⟩
    | j + 2, hj => simp at hj) (by rw [c234]; rfl) he
  have e0 := congrArg (·[0]?) hcs
  have e1 := congrArg (·[1]?) hcs
  simp only [List.getElem?_take, List.getElem?_drop] at e0 e1
  have hhi : Fl.hiT i = x.1 := by unfold Fl.hiT; rw [List.getD_eq_getElem?_getD, hx]; rfl
  have hlo : Fl.loT i = x.2 := by unfold Fl.loT; rw [List.getD_eq_getElem?_getD, hx]; rfl
  rw [hhi, hlo]
  constructor
  · rw [World.var?_cell hg' hvar, ← Array.getElem?_toList]; simpa using e0
  · rw [World.var?_cell hg' hvar, ← Array.getElem?_toList]; simpa using e1
theorem cheats_reads {W : World} (h : Lib.VarReads Tryz.prog W "internal/strconv.leftcheats" Go.Pinned.leftcheats) :
    ∃ b o, b < W.heap.size ∧ W.cell? ⟨16, 0, none⟩ = some (.slice (some ⟨b, o, none⟩) 61 61) ∧ ∀ i, i < 61 → W.cell? ⟨b, o + i * 2, none⟩ = some (.int .i64 (cheatDelta i)) ∧ W.cell? ⟨b, o + i * 2 + 1, none⟩ = some (.string ⟨(cheatCut i).toArray⟩) := by
  have hlen : Go.Pinned.cheatRows.length = 61 := by kernel_rfl
  have c240 : Tryz.prog.cellsOf 240 = 2 := by kernel_rfl
  have c3 : Tryz.prog.cellsOf 3 = 1 := by kernel_rfl
  have c9 : Tryz.prog.cellsOf 9 = 1 := by kernel_rfl
  unfold Go.Pinned.leftcheats at h
  obtain ⟨b, o, h1, h2, h3⟩ := slice_reads (show Tryz.prog.globalNamed "internal/strconv.leftcheats" = some 16 by kernel_rfl) (show (Tryz.prog.globals[16]?).map (·.type) = some 241 by kernel_rfl) Tryz.underlying241 c240 (by omega) (by rw [List.length_map]; omega) h
  rw [List.length_map, hlen] at h2 h3
  refine ⟨b, o, h1, h2, fun i hi => ?_⟩
  obtain ⟨ce, f, q, y, k1, k2, k3⟩ := h3 i hi
  obtain ⟨x, hx⟩ : ∃ x, Go.Pinned.cheatRows[i]? = some x := ⟨Go.Pinned.cheatRows[i]'(by omega), List.getElem?_eq_getElem (by omega)⟩
  rw [List.getElem?_map, hx] at k1
  simp only [Option.map_some, Option.some.injEq] at k1
  subst k1
  obtain ⟨y0, y1, n, hy, hcl, f0, f1⟩ := trod_struct2 Tryz.underlying240 k2
  change DataW.trod _ _ _ _ _ _ _ 3 ((ce.drop 0).take (Tryz.prog.cellsOf 3)) = some y0 at f0
  change DataW.trod _ _ _ _ _ _ _ 9 ((ce.drop 1).take (Tryz.prog.cellsOf 9)) = some y1 at f1
  rw [c3] at f0
  rw [c9] at f1
  obtain ⟨n0, j0, r0, _⟩ := DataW.trod_int Tryz.underlying3 f0
  obtain ⟨s1, j1, r1, _⟩ := DataW.trod_string Tryz.underlying9 f1
  have hy1 := congrArg Prod.fst hy
  rw [r0, r1] at hy1
  simp only [DataW.agg.injEq, List.cons.injEq, DataW.lit.injEq, Lit.int.injEq, Lit.string.injEq, true_and, and_true] at hy1
  obtain ⟨e0, e1⟩ := hy1
  subst e0
  have g0 := congrArg (·[0]?) j0
  have g1 := congrArg (·[0]?) j1
  simp only [List.getElem?_take, List.getElem?_drop] at g0 g1
  have hde : cheatDelta i = x.1 := by unfold cheatDelta; rw [List.getD_eq_getElem?_getD, hx]; rfl
  have hcu : cheatCut i = x.2 := by unfold cheatCut; rw [List.getD_eq_getElem?_getD, hx]; rfl
  rw [hde, hcu]
  constructor
  · have := k3 0 (by omega)
    rw [Nat.add_zero] at this
    rw [this]; simpa using g0
  · rw [k3 1 (by omega), e1]; simpa using g1
theorem powtab_reads {W : World} (h : Lib.VarReads Tryz.prog W "internal/strconv.powtab" Rows.laid_internal_strconv_powtab) :
    ∃ b o, b < W.heap.size ∧ W.cell? ⟨18, 0, none⟩ = some (.slice (some ⟨b, o, none⟩) 9 9) ∧ ∀ i, i < 9 → W.cell? ⟨b, o + i, none⟩ = some (.int .i64 (powtabN i)) := by
  rw [powtab_eq] at h
  obtain ⟨b, o, h1, h2, h3⟩ := slice_reads (show Tryz.prog.globalNamed "internal/strconv.powtab" = some 18 by kernel_rfl) (show (Tryz.prog.globals[18]?).map (·.type) = some 126 by kernel_rfl) Tryz.underlying126 (show Tryz.prog.cellsOf 3 = 1 by kernel_rfl) (by omega) (by simp) h
  rw [List.length_map, List.length_range] at h2 h3
  refine ⟨b, o, h1, h2, fun i hi => ?_⟩
  obtain ⟨ce, f, q, y, k1, k2, k3⟩ := h3 i hi
  rw [List.getElem?_map, List.getElem?_range hi] at k1
  simp only [Option.map_some, Option.some.injEq] at k1
  subst k1
  obtain ⟨n0, rfl, r0, _⟩ := DataW.trod_int Tryz.underlying3 k2
  simp only [Prod.mk.injEq, DataW.lit.injEq, Lit.int.injEq, true_and] at r0
  have := k3 0 (by omega)
  rw [Nat.add_zero, Nat.mul_one] at this
  rw [this, ← r0.1]; rfl
theorem pw_reads {W : World} (h : Lib.VarReads Tryz.prog W "internal/strconv.float64pow10" Rows.laid_internal_strconv_float64pow10) :
    ∃ b o, b < W.heap.size ∧ W.cell? ⟨19, 0, none⟩ = some (.slice (some ⟨b, o, none⟩) 23 23) ∧ ∀ i, i < 23 → W.cell? ⟨b, o + i, none⟩ = some (.float .f64 (Fl.pw i)) := by
  rw [pw_eq] at h
  obtain ⟨b, o, h1, h2, h3⟩ := slice_reads (show Tryz.prog.globalNamed "internal/strconv.float64pow10" = some 19 by kernel_rfl) (show (Tryz.prog.globals[19]?).map (·.type) = some 247 by kernel_rfl) Tryz.underlying247 (show Tryz.prog.cellsOf 36 = 1 by kernel_rfl) (by omega) (by simp) h
  rw [List.length_map, List.length_range] at h2 h3
  refine ⟨b, o, h1, h2, fun i hi => ?_⟩
  obtain ⟨ce, f, q, y, k1, k2, k3⟩ := h3 i hi
  rw [List.getElem?_map, List.getElem?_range hi] at k1
  simp only [Option.map_some, Option.some.injEq] at k1
  subst k1
  rw [trod_float Tryz.underlying36 k2] at k3
  have := k3 0 (by omega)
  rw [Nat.add_zero, Nat.mul_one] at this
  rw [this]; rfl

theorem glob_of_laid {W : World} (h : laidMet Tryz.prog Rows.fnReadAgainRow.laid W) : Glob W.heap.size W := by
  have r : ∀ (k : Nat) n d, Rows.fnReadAgainRow.laid[k]? = some (n, d) → Lib.VarReads Tryz.prog W n d := fun k n d hk => Lib.laidMet.reads h (List.mem_of_getElem? hk)
  have hinfo := info_reads (r 3 _ _ rfl)
  have h32 : Lib.TabIs Tryz.prog W "math/bits.deBruijn64tab" .u8 ([0, 1, 56, 2, 57, 49, 28, 3, 61, 58, 42, 50, 38, 29, 17, 4, 62, 47, 59, 36, 45, 43, 51, 22, 53, 39, 33, 30, 24, 18, 12, 5, 63, 55, 48, 27, 60, 41, 37, 16, 46, 35, 44, 21, 52, 32, 23, 11, 54, 26, 40, 15, 34, 20, 31, 10, 25, 14, 19, 9, 13, 8, 7, 6]) :=
    tabIs_reads (show Tryz.prog.globalNamed "math/bits.deBruijn64tab" = some 21 by kernel_rfl) (show (Tryz.prog.globals[21]?).map (·.type) = some 254 by kernel_rfl) Tryz.underlying254 Tryz.underlying5 (by kernel_rfl) (by kernel_rfl) (r 1 _ _ rfl)
  have hlow : 22 ≤ W.heap.size := cell_in_heap (h32.cell (show Tryz.prog.globalNamed "math/bits.deBruijn64tab" = some 21 by kernel_rfl) 0 (by decide))
  have htab : Lib.TabIs Tryz.prog W "internal/strconv.uint64pow10" .u64 Lib.pow10Tab :=
    tabIs_reads (show Tryz.prog.globalNamed "internal/strconv.uint64pow10" = some 12 by kernel_rfl) (show (Tryz.prog.globals[12]?).map (·.type) = some 201 by kernel_rfl) Tryz.underlying201 Tryz.underlying127 (by kernel_rfl) (by kernel_rfl) (tab_eq ▸ r 8 _ _ rfl)
  have hfold : Lib.TabIs Tryz.prog W "unicode.asciiFold" .u16 ((List.range 128).map fun i => (foldN i : Int)) :=
    tabIs_reads (show Tryz.prog.globalNamed "unicode.asciiFold" = some 3 by kernel_rfl) (show (Tryz.prog.globals[3]?).map (·.type) = some 134 by kernel_rfl) Tryz.underlying134 Tryz.underlying133 (by kernel_rfl) (by kernel_rfl) (fold_eq ▸ r 12 _ _ rfl)
  have h13 : ∃ v, W.cell? ⟨13, 0, none⟩ = some v := by
    obtain ⟨g', t', cs, fuel, p, hg', ht', hvar, hd⟩ := r 2 _ _ rfl
    obtain rfl := Option.some.inj ((show Tryz.prog.globalNamed "internal/strconv.float32info" = some 13 by kernel_rfl).symm.trans hg')
    obtain rfl := Option.some.inj ((show (Tryz.prog.globals[13]?).map (·.type) = some 213 by kernel_rfl).symm.trans ht')
    obtain ⟨xs, n, rfl, hx, hl, hxl, hf⟩ := DataW.trod_struct Tryz.underlying213 hd
    have c213 : Tryz.prog.cellsOf 213 = 3 := by kernel_rfl
    rw [c213] at hl
    exact ⟨cs.toList[0]'(by omega), by rw [World.var?_cell hg' hvar, ← Array.getElem?_toList]; exact List.getElem?_eq_getElem (by omega)⟩
  refine ⟨hlow, Nat.le_refl _, ?_, hinfo.1, hinfo.2.1, hinfo.2.2, htab, fun i hi => (pow10_reads (r 18 _ _ rfl) i hi).1, fun i hi => (pow10_reads (r 18 _ _ rfl) i hi).2, pw_reads (r 6 _ _ rfl), powtab_reads (r 5 _ _ rfl), cheats_reads (r 17 _ _ rfl), fun i hi => ?_, ?_, ?_, ?_, ?_, ?_, ?_⟩
  · exact bool_reads (show Tryz.prog.globalNamed "internal/strconv.optimize" = some 9 by kernel_rfl) (show (Tryz.prog.globals[9]?).map (·.type) = some 4 by kernel_rfl) Tryz.underlying4 (r 4 _ _ rfl)
  · have := hfold.cell (show Tryz.prog.globalNamed "unicode.asciiFold" = some 3 by kernel_rfl) i (by simpa using hi)
    rw [this]
    simp [List.getD, hi]
  · exact iface_reads (show Tryz.prog.globalNamed "loop.example/pub-g01495/pub/orbwkt.ErrUnsupportedGeometry" = some 0 by kernel_rfl) (show (Tryz.prog.globals[0]?).map (·.type) = some 41 by kernel_rfl) Tryz.underlying41 (r 16 _ _ rfl)
  · exact iface_reads (show Tryz.prog.globalNamed "loop.example/pub-g01495/pub/orbwkt.ErrNotWKT" = some 1 by kernel_rfl) (show (Tryz.prog.globals[1]?).map (·.type) = some 41 by kernel_rfl) Tryz.underlying41 (r 15 _ _ rfl)
  · exact iface_reads (show Tryz.prog.globalNamed "strconv.ErrSyntax" = some 10 by kernel_rfl) (show (Tryz.prog.globals[10]?).map (·.type) = some 41 by kernel_rfl) Tryz.underlying41 (r 11 _ _ rfl)
  · exact iface_reads (show Tryz.prog.globalNamed "strconv.ErrRange" = some 11 by kernel_rfl) (show (Tryz.prog.globals[11]?).map (·.type) = some 41 by kernel_rfl) Tryz.underlying41 (r 10 _ _ rfl)
  · obtain ⟨v, hv⟩ := h13
    exact laid_block h (List.mem_of_getElem? (i := 2) rfl) (show Tryz.prog.globalNamed "internal/strconv.float32info" = some 13 by kernel_rfl) hv
  · exact laid_block h (List.mem_of_getElem? (i := 3) rfl) (show Tryz.prog.globalNamed "internal/strconv.float64info" = some 14 by kernel_rfl) hinfo.1
end Go.Proofs.YtgmbjdoifkjdhaaGreatDoor
end
section
namespace Go.Proofs.YtgmbjdoifkjdhaaGreatDoor
open Go.ChangeMaps Go.ChangeShapes Go.WideShapes Go.ChangeAt Go.WideMaps Go.WideElems Go.RowKit

set_option maxRecDepth 100000
theorem own : ownKnob Tryz.prog.godebug = none := by kernel_rfl
theorem laid_out : laidOutB Tryz.prog = true := by kernel_rfl
theorem plain_laid : (Rows.fnReadAgainRow.laid.all fun x => x.2.handleName?.isNone) = true := by kernel_rfl
theorem lifted (os : Os) (started : os.Started) (H : Type) (enc : TypeId × Value → H) :
    ReturnsInHanded {} Tryz.checked os 3 .any (fun w args => (Rows.fnReadAgainSpec.pre enc Tryz.prog Tryz.f3 [] false w args ∧ laidMetH Tryz.prog Rows.fnReadAgainRow.laid w) ∧ sizedMet enc Tryz.prog Tryz.f3 (OpenSpec.ofChange Rows.fnReadAgainSpec) false w args)
      (Rows.fnReadAgainSpec.post enc Tryz.prog Tryz.f3 false true false false) := by
  refine returnsInHanded_of_change_and (C := Tryz.checked) (X := fun w _ => laidMetH Tryz.prog Rows.fnReadAgainRow.laid w) (fun _ _ _ hh h => h.of_heap hh) own started (by kernel_rfl) Tryz.func3
    (ChangeSpec.witness_shaped (enc := enc) (C := Tryz.checked) (os := os) (X := fun w _ => laidMetH Tryz.prog Rows.fnReadAgainRow.laid w) false (World.laidAll Tryz.prog os Rows.fnReadAgainRow.laid) #[.string ⟨#[]⟩] 8 (World.laidAll_os _ _ _)
      (World.shaped_of_ZipB (by kernel_rfl) (by kernel_rfl)) (by kernel_rfl) (by kernel_rfl) (by kernel_rfl)
      (by rw [MakeChecks.laidMetH_plain _ _ _ plain_laid]; exact laidMet_laidAll _ (by kernel_rfl) (by kernel_rfl))) ?_
  intro W base args ds gs before hval0 hW _ _ hL _
  have hval : ∀ (j : Nat) t v, Tryz.f3.params[j]? = some t → args[j]? = some v → Value.okWide Tryz.prog W .any base t v := hval0
  have hW' := hW
  obtain ⟨p, q, hA0, hV, rfl, _, _⟩ := hW
  have hA : DataW.TrodAll enc Tryz.prog W 0 (fun _ => true) true Tryz.f3.params.toList args.toList ds p := hA0
  rw [Tryz.params3] at hA hval
  obtain ⟨v0, d0, rfl, rfl, h0⟩ := trodAll_one hA
  obtain ⟨s, rfl, rfl, rfl, hs⟩ := open_string Tryz.underlying9 (hval 0 9 v0 rfl rfl) h0
  rw [MakeChecks.laidMetH_plain _ _ _ plain_laid] at hL
  have hG := glob_of_laid hL
  refine (again_any W.heap.size s W hG).mono fun e W' ⟨he, hb⟩ => ?_
  subst he
  have hV2 := hV
  obtain ⟨_, _, _, _, g1, _, _, _, _, _, g2, _, rfl, _⟩ := trodVars_two hV
  exact ⟨_, rfl, _, _, _, [], [], q, hW', trodAll_mk1 (shut_bool Tryz.underlying4 _), trodAll_mk1 (shut_string Tryz.underlying9 hs), Below.trodVars laid_out hb (by kernel_rfl) hV2, hb.frame _, fun h => by cases h⟩
theorem fnReadAgain_holds : Rows.FnReadAgainSaid :=
  OpenClaim.holds_of_wide 3 Tryz.f3 rfl rfl rfl rfl rfl rfl rfl ⟨rfl, rfl, rfl, rfl, rfl⟩ rfl rfl rfl rfl rfl (by kernel_rfl) Tryz.func3 (by kernel_rfl)
    (of_decide_eq_true (by kernel_rfl)) (by unfold Func.isWrapper; first | (rw [if_pos (by decide +kernel)]; kernel_rfl) | (rw [if_neg (by decide +kernel)]; exact ⟨rfl, rfl⟩))
    (fun os started H enc _ => lifted os started H enc)
theorem fnReadAgain_card : Rows.FnReadAgainCardSaid :=
  Claim7.holds_tied_plain_at .later [] [.data, .data, .widerDeep, .widerDeep, .data, .data, .data, .data, .data, .data, .sentinel, .sentinel, .data, .data, .sentinel, .sentinel, .sentinel, .pinned, .pinned, .pinned, .pinned] true (true, "626fedbd967e1072df0d975af85ba25a5a2071d39da92dd7bbcab18af2ab6f11") true
    fnReadAgain_holds (fun _ h => by cases h) (by kernel_rfl) (fun _ h => by cases h) fnReadAgain_row_tie rfl ⟨rfl, rfl⟩ (by kernel_rfl) rfl
    (fun f fn hf hfn => by
      obtain rfl : f = 3 := Option.some.inj ((show Tryz.prog.funcNamed "loop.example/pub-g01495/laws.FnReadAgain" = some 3 by kernel_rfl).symm.trans hf) |>.symm
      obtain rfl : fn = Tryz.f3 := (Option.some.inj (Tryz.func3.symm.trans hfn)).symm
      exact ⟨by kernel_rfl, fun j t ht => by
        rw [Tryz.params3] at ht
        have hm : t ∈ [9] := by simpa using Array.mem_of_getElem? ht
        have hall : ([9].all fun u => !Tryz.prog.wantsStandIn u) = true := by kernel_rfl
        exact (show Tryz.prog.wantsStandIn t = false by simpa using List.all_eq_true.1 hall t hm)⟩)
    (by kernel_rfl)
end Go.Proofs.YtgmbjdoifkjdhaaGreatDoor
end
