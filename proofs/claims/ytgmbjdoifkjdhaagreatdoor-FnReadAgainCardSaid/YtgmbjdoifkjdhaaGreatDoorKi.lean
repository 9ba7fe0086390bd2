/- The readers of a line and of a multipoint. The readers of a polygon, of a multi line, of a multi polygon. -/
import Derived.Test.YtgmbjdoifkjdhaaGreatDoorKh
section
namespace Go.Proofs.YtgmbjdoifkjdhaaGreatDoor
open Go.RowKit

theorem isSl_nil {X : Type} (lo size : Nat) (It : List Value → X → World → Prop) (ao : Option Addr) (cap : Nat) (w : World) : Sup lo (IsSl size It (.slice ao 0 cap) ([] : List X)) w :=
  ⟨[], by simp, fun _ _ => ⟨ao, cap, [], rfl, rfl, by simp, by simp, by simp⟩⟩

/-- The first n bytes of s, in upper case, are those of lit. -/
def Pre (s lit : ByteArray) (n : Nat) : Prop := n ≤ s.size ∧ n ≤ lit.size ∧ ∀ k (h : k < lit.size), k < n → upI s k = (lit[k].toNat : Int)
theorem foldT_of {s lit : ByteArray} {n : Nat} (h : Pre s lit n) (h1 : ∀ c ∈ lit.data.toList, c.toNat < 128) (h2 : ∀ c ∈ lit.data.toList.drop n, foldN (foldN c.toNat) = c.toNat ∧ foldN c.toNat < 128) : FoldT s lit := by
  have hm : ∀ k (h : k < lit.size), lit[k] ∈ lit.data.toList := fun k h => List.mem_of_getElem? (bs_at lit k h)
  refine ⟨fun k hk => h1 _ (hm k hk), fun k hk hk' hb => ?_⟩
  rcases Nat.lt_or_ge k n with hkn | hkn
  · have h3 := h.2.2 k hk' hkn
    have h4 := h1 _ (hm k hk')
    unfold upI at h3
    rw [dif_pos hk, if_neg (by omega)] at h3
    omega
  · apply h2
    have h5 : lit.data.toList.drop n = (bs lit).drop n := rfl
    rw [h5]
    apply List.mem_of_getElem? (i := k - n)
    rw [List.getElem?_drop, show n + (k - n) = k by omega]
    exact bs_at lit k hk'

/-- EqualFold may say yes. -/
def Emp (s lit : ByteArray) : Prop := ∀ k (h : k < s.size) (h' : k < lit.size), Fe s[k] lit[k]
def RdR {X : Type} (R : List UInt8 → List X → Prop) (s lit : ByteArray) (n : Nat) (ps : List X) : Prop := (s = lit → ps = []) ∧ ((ps = [] ∧ Emp s lit) ∨ R (bs (s.extract n s.size)) ps)
def RdBad (Q : List UInt8 → Prop) (s lit : ByteArray) (n : Nat) : Prop := s ≠ lit ∧ Q (bs (s.extract n s.size))

def litLine : ByteArray := ⟨#[76, 73, 78, 69, 83, 84, 82, 73, 78, 71, 32, 69, 77, 80, 84, 89]⟩
theorem call45 {NT : List UInt8 → Nat → Prop} (N : NumIO NT) (B : Nat) (w0 : World) (hg : Glob B w0) (s : ByteArray) (hs : s.size ≤ 1099511627776) (Bw : Nat) (hBw : B ≤ Bw) :
    ∀ done (p : ByteArray) rest w, done ++ bs p :: rest = commaParts (bs s) → p.size ≤ s.size → LineInv 50 (PtR NT) Bw w0 done w →
      Calls Tryz.prog 45 (#[.string p] ++ #[.pointer (some ⟨Bw, 0, none⟩)]) w fun e w' => (e = .returned .nilIface ∧ LineInv 50 (PtR NT) Bw w0 (done ++ [bs p]) w') ∨ (∃ t q, e = .returned (.iface t q) ∧ LineBad NT Bw w0 (bs p) w') := by
  rintro done p rest w h1 h2 ⟨v, ps, hc⟩
  have hb := parts_bound h1
  refine (add45 N B _ _ Bw w0 w done v ps p (hg.below (hc.bel.below hg.size hBw)) (by omega) (by omega) hc.bel.size hc).mono ?_
  rintro e w' (⟨rfl, h⟩ | ⟨t, q, rfl, h3, h4⟩)
  · exact .inl ⟨rfl, h⟩
  · exact .inr ⟨t, q, rfl, by rw [LineBad, tx_bs]; exact ⟨h3, h4⟩⟩

theorem call50 {NT : List UInt8 → Nat → Prop} (N : NumIO NT) (B : Nat) (w0 : World) (hg : Glob B w0) (s : ByteArray) (hs : s.size ≤ 1099511627776) (Bw : Nat) (hBw : B ≤ Bw) :
    ∀ done (p : ByteArray) rest w, done ++ bs p :: rest = commaParts (bs s) → p.size ≤ s.size → LineInv 54 (MemR NT) Bw w0 done w →
      Calls Tryz.prog 50 (#[.string p] ++ #[.pointer (some ⟨Bw, 0, none⟩)]) w fun e w' => (e = .returned .nilIface ∧ LineInv 54 (MemR NT) Bw w0 (done ++ [bs p]) w') ∨ (∃ t q, e = .returned (.iface t q) ∧ RowBad (MemBad NT) Bw w0 (bs p) w') := by
  rintro done p rest w h1 h2 ⟨v, ps, hc⟩
  have hb := parts_bound h1
  refine (add50 N B _ _ Bw w0 w done v ps p (hg.below (hc.bel.below hg.size hBw)) (by omega) (by omega) hc.bel.size hc).mono ?_
  rintro e w' (⟨rfl, h⟩ | ⟨t, q, rfl, h3, h4⟩)
  · exact .inl ⟨rfl, h⟩
  · exact .inr ⟨t, q, rfl, ⟨h3, h4⟩⟩

theorem ent45 : ∀ (args : Array Value) (w : World), (callFunc 45 args).run Tryz.prog w = .ok (.enter 45 args) w := enters_of Tryz.func45 (by kernel_rfl) rfl
theorem ent50 : ∀ (args : Array Value) (w : World), (callFunc 50 args).run Tryz.prog w = .ok (.enter 50 args) w := enters_of Tryz.func50 (by kernel_rfl) rfl

set_option maxHeartbeats 1000000 in
set_option maxRecDepth 100000 in
theorem rdLine {NT : List UInt8 → Nat → Prop} (N : NumIO NT) (B : Nat) (s0 : ByteArray) (w : World) (hg : Glob B w) (hs : s0.size ≤ 1099511627776) (hp : Pre s0 litLine 10) :
    Calls Tryz.prog 24 #[.string s0] w fun e w' => (∃ v, (∃ ps, e = .returned (.tuple #[v, .nilIface]) ∧ Sup w.heap.size (IsSl 2 PtIt v ps) w' ∧ RdR (RingR NT) s0 litLine 10 ps) ∨
      (∃ t q, e = .returned (.tuple #[v, .iface t q]) ∧ RdBad (RingBad NT) s0 litLine 10)) ∧ Below w.heap.size w w' := by
  have hf : FoldT s0 litLine := foldT_of hp (by decide) (by decide)
  have hn := hp.1
  have hgs := hg.size
  obtain ⟨j0, hj, hy0, hy1, hy2⟩ := info_parts info47
  have hmf : ∀ (fn : Fn) (first cap : Array Value) (w : World), (Instr.makeFunc fn first cap).run Tryz.prog w = .ok (.func fn first cap) w := fun _ _ _ _ => rfl
  have hse : (s0.extract 10 s0.size).size ≤ s0.size := by rw [extract_size _ _ _ (Nat.le_refl _)]; omega
  replace hg := hide hg
  replace hf := hide hf
  replace hp := hide hp
  go_enter Tryz.func24, Tryz.ntmps24
  go_wp2_with (first
    | (go_at_call 42; (refine (fold_any B s0 litLine _ hg.out (by omega) (by decide) hf.out).mono ?_); rintro e wf ⟨⟨b, rfl, hb1, hb2⟩, hbf⟩; replace hb1 := hide hb1; replace hb2 := hide hb2; replace hbf := hide hbf; cases b)
    | (go_at_call 40; (with_reducible refine (brackets_any B (s0.extract 10 s0.size) _ (hg.out.up hbf.out) (by omega)).mono ?_); rintro e wb ⟨⟨s, ⟨rfl, hbo⟩ | ⟨ty, q, rfl, hbb⟩⟩, hbelb⟩; all_goals (have hszb := Nat.le_trans hbf.out.size hbelb.size; (try have hsl := hbo.1); replace hbelb := hide (hbf.out.trans (hbelb.mono hbf.out.size))))
    | (go_at_call 43; (with_reducible refine (commas_any s wb (by omega)).mono ?_); rintro e w' ⟨rfl, rfl⟩; have hcl := commasN_le (bs s); rw [bs_len] at hcl)
    | (at_make; refine wpList_make_own _ rfl _ _ 50 rfl wb.heap.size 47 j0 (.agg #[.float .f64 0, .float .f64 0]) 2 under50 hj hy0 hy1 .i64 .i64 _ (commasN (bs s) + 1) rfl rfl (by omega) (by rw [hy2]; omega) (by unfold maxLen; omega) (Nat.le_refl _) ?_; intro w1 hown1 hgrow1; have hsz1 := hgrow1.size; have hst := hide (LineInv.mk (Cap.start (T := 50) (It := PtIt) (R := PtR NT) hown1 (Nat.le_refl _) (Fr.of ((Below.refl wb.heap.size wb).grown hgrow1 (Nat.le_refl _) (by simp)) (Nat.le_refl _)) hsz1)); clear hown1 hgrow1)
    | (go_at_call 44; (with_reducible refine (splitComma_any 45 #[.pointer (some ⟨w1.heap.size, 0, none⟩)] ent45 s _ (by omega) (LineInv 50 (PtR NT) w1.heap.size wb) (LineBad NT w1.heap.size wb) (call45 N B wb (hg.out.up hbelb.out) s (by omega) w1.heap.size (by omega)) hst.out).mono ?_); rintro e w2 (⟨rfl, vi, pts, hci⟩ | ⟨t, q, rfl, p, hp, hpb, hfi⟩); (have hbel2 := hide (hci.bel.below (Nat.le_refl _) hsz1)); (obtain ⟨ai, ci, rfl⟩ := own_shape hci.built.choose_spec.2.2.1); (have hc1 := hci.blk.cell 0); (simp only [List.getElem?_toArray, List.getElem?_cons_zero] at hc1); (replace hci := hide hci)))
  · go_ret2
    exact ⟨⟨_, .inl ⟨pts, rfl, hci.out.built.sup.mono hszb, fun h => absurd (hb1.out h) (by simp), .inr ⟨s, by rw [tx_bs]; exact hbo, hci.out.all⟩⟩⟩, hbelb.out.trans (hbel2.out.mono hszb)⟩
  · go_ret2
    exact ⟨⟨_, .inr ⟨t, q, rfl, fun h => absurd (hb1.out h) (by simp), .inr ⟨s, by rw [tx_bs]; exact hbo, p, hp, hpb⟩⟩⟩, hbelb.out.trans ((hfi.below (Nat.le_refl _) hsz1).mono hszb)⟩
  · go_ret2
    exact ⟨⟨_, .inr ⟨ty, q, rfl, fun h => absurd (hb1.out h) (by simp), .inl (by rw [tx_bs]; exact hbb)⟩⟩, hbelb.out⟩
  · go_ret2
    exact ⟨⟨_, .inl ⟨[], rfl, isSl_nil _ _ _ _ _ _, fun _ => rfl, .inl ⟨rfl, hb2.out trivial⟩⟩⟩, hbf.out.trans ((below_alloc wf _).mono hbf.out.size)⟩
def litMulti : ByteArray := ⟨#[77, 85, 76, 84, 73, 80, 79, 73, 78, 84, 32, 69, 77, 80, 84, 89]⟩
/-- The text of a multipoint's members, in its brackets. -/
def MpsR (NT : List UInt8 → Nat → Prop) (l : List UInt8) (ps : List (Nat × Nat)) : Prop := ∃ t, BrOk (tx l) t ∧ All2 (MemR NT) (commaParts (bs t)) ps
def MpsBad (NT : List UInt8 → Nat → Prop) (l : List UInt8) : Prop := BrBad (tx l) ∨ ∃ t, BrOk (tx l) t ∧ ∃ p ∈ commaParts (bs t), MemBad NT p

set_option maxHeartbeats 1000000 in
set_option maxRecDepth 100000 in
theorem rdMulti {NT : List UInt8 → Nat → Prop} (N : NumIO NT) (B : Nat) (s0 : ByteArray) (w : World) (hg : Glob B w) (hs : s0.size ≤ 1099511627776) (hp : Pre s0 litMulti 10) :
    Calls Tryz.prog 26 #[.string s0] w fun e w' => (∃ v, (∃ ps, e = .returned (.tuple #[v, .nilIface]) ∧ Sup w.heap.size (IsSl 2 PtIt v ps) w' ∧ RdR (MpsR NT) s0 litMulti 10 ps) ∨
      (∃ t q, e = .returned (.tuple #[v, .iface t q]) ∧ RdBad (MpsBad NT) s0 litMulti 10)) ∧ Below w.heap.size w w' := by
  have hf : FoldT s0 litMulti := foldT_of hp (by decide) (by decide)
  have hn := hp.1
  have hgs := hg.size
  obtain ⟨j0, hj, hy0, hy1, hy2⟩ := info_parts info47
  have hmf : ∀ (fn : Fn) (first cap : Array Value) (w : World), (Instr.makeFunc fn first cap).run Tryz.prog w = .ok (.func fn first cap) w := fun _ _ _ _ => rfl
  have hse : (s0.extract 10 s0.size).size ≤ s0.size := by rw [extract_size _ _ _ (Nat.le_refl _)]; omega
  replace hg := hide hg
  replace hf := hide hf
  replace hp := hide hp
  go_enter Tryz.func26, Tryz.ntmps26
  go_wp2_with (first
    | (go_at_call 42; (refine (fold_any B s0 litMulti _ hg.out (by omega) (by decide) hf.out).mono ?_); rintro e wf ⟨⟨b, rfl, hb1, hb2⟩, hbf⟩; replace hb1 := hide hb1; replace hb2 := hide hb2; replace hbf := hide hbf; cases b)
    | (go_at_call 40; (with_reducible refine (brackets_any B (s0.extract 10 s0.size) _ (hg.out.up hbf.out) (by omega)).mono ?_); rintro e wb ⟨⟨s, ⟨rfl, hbo⟩ | ⟨ty, q, rfl, hbb⟩⟩, hbelb⟩; all_goals (have hszb := Nat.le_trans hbf.out.size hbelb.size; (try have hsl := hbo.1); replace hbelb := hide (hbf.out.trans (hbelb.mono hbf.out.size))))
    | (go_at_call 43; (with_reducible refine (commas_any s wb (by omega)).mono ?_); rintro e w' ⟨rfl, rfl⟩; have hcl := commasN_le (bs s); rw [bs_len] at hcl)
    | (at_make; refine wpList_make_own _ rfl _ _ 54 rfl wb.heap.size 47 j0 (.agg #[.float .f64 0, .float .f64 0]) 2 under54 hj hy0 hy1 .i64 .i64 _ (commasN (bs s) + 1) rfl rfl (by omega) (by rw [hy2]; omega) (by unfold maxLen; omega) (Nat.le_refl _) ?_; intro w1 hown1 hgrow1; have hsz1 := hgrow1.size; have hst := hide (LineInv.mk (Cap.start (T := 54) (It := PtIt) (R := MemR NT) hown1 (Nat.le_refl _) (Fr.of ((Below.refl wb.heap.size wb).grown hgrow1 (Nat.le_refl _) (by simp)) (Nat.le_refl _)) hsz1)); clear hown1 hgrow1)
    | (go_at_call 44; (with_reducible refine (splitComma_any 50 #[.pointer (some ⟨w1.heap.size, 0, none⟩)] ent50 s _ (by omega) (LineInv 54 (MemR NT) w1.heap.size wb) (RowBad (MemBad NT) w1.heap.size wb) (call50 N B wb (hg.out.up hbelb.out) s (by omega) w1.heap.size (by omega)) hst.out).mono ?_); rintro e w2 (⟨rfl, vi, pts, hci⟩ | ⟨t, q, rfl, p, hp, hpb, hfi⟩); (have hbel2 := hide (hci.bel.below (Nat.le_refl _) hsz1)); (obtain ⟨ai, ci, rfl⟩ := own_shape hci.built.choose_spec.2.2.1); (have hc1 := hci.blk.cell 0); (simp only [List.getElem?_toArray, List.getElem?_cons_zero] at hc1); (replace hci := hide hci)))
  · go_ret2
    exact ⟨⟨_, .inl ⟨pts, rfl, hci.out.built.sup.mono hszb, fun h => absurd (hb1.out h) (by simp), .inr ⟨s, by rw [tx_bs]; exact hbo, hci.out.all⟩⟩⟩, hbelb.out.trans (hbel2.out.mono hszb)⟩
  · go_ret2
    exact ⟨⟨_, .inr ⟨t, q, rfl, fun h => absurd (hb1.out h) (by simp), .inr ⟨s, by rw [tx_bs]; exact hbo, p, hp, hpb⟩⟩⟩, hbelb.out.trans ((hfi.below (Nat.le_refl _) hsz1).mono hszb)⟩
  · go_ret2
    exact ⟨⟨_, .inr ⟨ty, q, rfl, fun h => absurd (hb1.out h) (by simp), .inl (by rw [tx_bs]; exact hbb)⟩⟩, hbelb.out⟩
  · go_ret2
    exact ⟨⟨_, .inl ⟨[], rfl, isSl_nil _ _ _ _ _ _, fun _ => rfl, .inl ⟨rfl, hb2.out trivial⟩⟩⟩, hbf.out.trans ((below_alloc wf _).mono hbf.out.size)⟩
end Go.Proofs.YtgmbjdoifkjdhaaGreatDoor
end
section
namespace Go.Proofs.YtgmbjdoifkjdhaaGreatDoor
open Go.RowKit

/-- The text of the polygons of a multi polygon, in its brackets. -/
def MpolyR (NT : List UInt8 → Nat → Prop) (l : List UInt8) (xs : List (List (List (Nat × Nat)))) : Prop := ∃ t ps, BrOk (tx l) t ∧ Parts t true ps ∧ All2 (PolyR NT) ps xs
def MpolyBad (NT : List UInt8 → Nat → Prop) (l : List UInt8) : Prop := BrBad (tx l) ∨ ∃ t ps, BrOk (tx l) t ∧ Parts t true ps ∧ ∃ p ∈ ps, PolyBad NT p
def litPoly : ByteArray := ⟨#[80, 79, 76, 89, 71, 79, 78, 32, 69, 77, 80, 84, 89]⟩
def litMline : ByteArray := ⟨#[77, 85, 76, 84, 73, 76, 73, 78, 69, 83, 84, 82, 73, 78, 71, 32, 69, 77, 80, 84, 89]⟩
def litMpoly : ByteArray := ⟨#[77, 85, 76, 84, 73, 80, 79, 76, 89, 71, 79, 78, 32, 69, 77, 80, 84, 89]⟩
def litColl : ByteArray := ⟨#[71, 69, 79, 77, 69, 84, 82, 89, 67, 79, 76, 76, 69, 67, 84, 73, 79, 78, 32, 69, 77, 80, 84, 89]⟩

set_option maxHeartbeats 1000000 in
set_option maxRecDepth 100000 in
theorem rdPoly {NT : List UInt8 → Nat → Prop} (N : NumIO NT) (B : Nat) (s0 : ByteArray) (w : World) (hg : Glob B w) (hs : s0.size ≤ 1099511627776) (hp : Pre s0 litPoly 7) :
    Calls Tryz.prog 25 #[.string s0] w fun e w' => (∃ v, (∃ ps, e = .returned (.tuple #[v, .nilIface]) ∧ Sup w.heap.size (IsSl 1 RowIt v ps) w' ∧ RdR (PolyR NT) s0 litPoly 7 ps) ∨
      (∃ t q, e = .returned (.tuple #[v, .iface t q]) ∧ RdBad (PolyBad NT) s0 litPoly 7)) ∧ Below w.heap.size w w' := by
  have hf : FoldT s0 litPoly := foldT_of hp (by decide) (by decide)
  have hn := hp.1
  have hgs := hg.size
  have hmf : ∀ (fn : Fn) (first cap : Array Value) (w : World), (Instr.makeFunc fn first cap).run Tryz.prog w = .ok (.func fn first cap) w := fun _ _ _ _ => rfl
  have hse : (s0.extract 7 s0.size).size ≤ s0.size := by rw [extract_size _ _ _ (Nat.le_refl _)]; omega
  replace hg := hide hg
  replace hf := hide hf
  replace hp := hide hp
  go_enter Tryz.func25, Tryz.ntmps25
  go_wp2_with (first
    | (go_at_call 42; (refine (fold_any B s0 litPoly _ hg.out (by omega) (by decide) hf.out).mono ?_); rintro e wf ⟨⟨b, rfl, hb1, hb2⟩, hbf⟩; replace hb1 := hide hb1; replace hb2 := hide hb2; replace hbf := hide hbf; cases b)
    | (go_at_call 40; (with_reducible refine (brackets_any B (s0.extract 7 s0.size) _ (hg.out.up hbf.out) (by omega)).mono ?_); rintro e wb ⟨⟨s, ⟨rfl, hbo⟩ | ⟨ty, q, rfl, hbb⟩⟩, hbelb⟩; all_goals (have hszb := Nat.le_trans hbf.out.size hbelb.size; (try have hsl := hbo.1); replace hbelb := hide (hbf.out.trans (hbelb.mono hbf.out.size))))
    | (go_at_call 46; (with_reducible refine (split48 N B wb (hg.out.up hbelb.out) s (by omega)).mono ?_); rintro e w2 ⟨W1, ps, hW1, hps, ⟨rfl, vi, rs, hbi, hci⟩ | ⟨t, q, rfl, p, hp, hpb, hfi⟩⟩; (have hsW := hW1.size); (have hbel2 := hide (hW1.trans (hci.bel.below hsW (Nat.le_refl _)))); (obtain ⟨ai, ci, rfl⟩ := own_shape hci.built.choose_spec.2.2.1); (have hc1 := hci.blk.cell 0); (simp only [List.getElem?_toArray, List.getElem?_cons_zero] at hc1); (replace hci := hide hci)))
  · go_ret2
    exact ⟨⟨_, .inl ⟨rs, rfl, (hci.out.built.sup.mono hsW).mono hszb, fun h => absurd (hb1.out h) (by simp), .inr ⟨s, ps, by rw [tx_bs]; exact hbo, hps, hci.out.all⟩⟩⟩, hbelb.out.trans (hbel2.out.mono hszb)⟩
  · go_ret2
    exact ⟨⟨_, .inr ⟨t, q, rfl, fun h => absurd (hb1.out h) (by simp), .inr ⟨s, ps, by rw [tx_bs]; exact hbo, hps, p, hp, hpb⟩⟩⟩, hbelb.out.trans ((hW1.trans (hfi.below hW1.size (Nat.le_refl _))).mono hszb)⟩
  · go_ret2
    exact ⟨⟨_, .inr ⟨ty, q, rfl, fun h => absurd (hb1.out h) (by simp), .inl (by rw [tx_bs]; exact hbb)⟩⟩, hbelb.out⟩
  · go_ret2
    exact ⟨⟨_, .inl ⟨[], rfl, isSl_nil _ _ _ _ _ _, fun _ => rfl, .inl ⟨rfl, hb2.out trivial⟩⟩⟩, hbf.out.trans ((below_alloc wf _).mono hbf.out.size)⟩

set_option maxHeartbeats 1000000 in
set_option maxRecDepth 100000 in
theorem rdMline {NT : List UInt8 → Nat → Prop} (N : NumIO NT) (B : Nat) (s0 : ByteArray) (w : World) (hg : Glob B w) (hs : s0.size ≤ 1099511627776) (hp : Pre s0 litMline 15) :
    Calls Tryz.prog 27 #[.string s0] w fun e w' => (∃ v, (∃ ps, e = .returned (.tuple #[v, .nilIface]) ∧ Sup w.heap.size (IsSl 1 RowIt v ps) w' ∧ RdR (PolyR NT) s0 litMline 15 ps) ∨
      (∃ t q, e = .returned (.tuple #[v, .iface t q]) ∧ RdBad (PolyBad NT) s0 litMline 15)) ∧ Below w.heap.size w w' := by
  have hf : FoldT s0 litMline := foldT_of hp (by decide) (by decide)
  have hn := hp.1
  have hgs := hg.size
  have hmf : ∀ (fn : Fn) (first cap : Array Value) (w : World), (Instr.makeFunc fn first cap).run Tryz.prog w = .ok (.func fn first cap) w := fun _ _ _ _ => rfl
  have hse : (s0.extract 15 s0.size).size ≤ s0.size := by rw [extract_size _ _ _ (Nat.le_refl _)]; omega
  replace hg := hide hg
  replace hf := hide hf
  replace hp := hide hp
  go_enter Tryz.func27, Tryz.ntmps27
  go_wp2_with (first
    | (go_at_call 42; (refine (fold_any B s0 litMline _ hg.out (by omega) (by decide) hf.out).mono ?_); rintro e wf ⟨⟨b, rfl, hb1, hb2⟩, hbf⟩; replace hb1 := hide hb1; replace hb2 := hide hb2; replace hbf := hide hbf; cases b)
    | (go_at_call 40; (with_reducible refine (brackets_any B (s0.extract 15 s0.size) _ (hg.out.up hbf.out) (by omega)).mono ?_); rintro e wb ⟨⟨s, ⟨rfl, hbo⟩ | ⟨ty, q, rfl, hbb⟩⟩, hbelb⟩; all_goals (have hszb := Nat.le_trans hbf.out.size hbelb.size; (try have hsl := hbo.1); replace hbelb := hide (hbf.out.trans (hbelb.mono hbf.out.size))))
    | (go_at_call 46; (with_reducible refine (split52 N B wb (hg.out.up hbelb.out) s (by omega)).mono ?_); rintro e w2 ⟨W1, ps, hW1, hps, ⟨rfl, vi, rs, hbi, hci⟩ | ⟨t, q, rfl, p, hp, hpb, hfi⟩⟩; (have hsW := hW1.size); (have hbel2 := hide (hW1.trans (hci.bel.below hsW (Nat.le_refl _)))); (obtain ⟨ai, ci, rfl⟩ := own_shape hci.built.choose_spec.2.2.1); (have hc1 := hci.blk.cell 0); (simp only [List.getElem?_toArray, List.getElem?_cons_zero] at hc1); (replace hci := hide hci)))
  · go_ret2
    exact ⟨⟨_, .inl ⟨rs, rfl, (hci.out.built.sup.mono hsW).mono hszb, fun h => absurd (hb1.out h) (by simp), .inr ⟨s, ps, by rw [tx_bs]; exact hbo, hps, hci.out.all⟩⟩⟩, hbelb.out.trans (hbel2.out.mono hszb)⟩
  · go_ret2
    exact ⟨⟨_, .inr ⟨t, q, rfl, fun h => absurd (hb1.out h) (by simp), .inr ⟨s, ps, by rw [tx_bs]; exact hbo, hps, p, hp, hpb⟩⟩⟩, hbelb.out.trans ((hW1.trans (hfi.below hW1.size (Nat.le_refl _))).mono hszb)⟩
  · go_ret2
    exact ⟨⟨_, .inr ⟨ty, q, rfl, fun h => absurd (hb1.out h) (by simp), .inl (by rw [tx_bs]; exact hbb)⟩⟩, hbelb.out⟩
  · go_ret2
    exact ⟨⟨_, .inl ⟨[], rfl, isSl_nil _ _ _ _ _ _, fun _ => rfl, .inl ⟨rfl, hb2.out trivial⟩⟩⟩, hbf.out.trans ((below_alloc wf _).mono hbf.out.size)⟩

set_option maxHeartbeats 1000000 in
set_option maxRecDepth 100000 in
theorem rdMpoly {NT : List UInt8 → Nat → Prop} (N : NumIO NT) (B : Nat) (s0 : ByteArray) (w : World) (hg : Glob B w) (hs : s0.size ≤ 1099511627776) (hp : Pre s0 litMpoly 12) :
    Calls Tryz.prog 28 #[.string s0] w fun e w' => (∃ v, (∃ ps, e = .returned (.tuple #[v, .nilIface]) ∧ Sup w.heap.size (IsSl 1 PolyIt v ps) w' ∧ RdR (MpolyR NT) s0 litMpoly 12 ps) ∨
      (∃ t q, e = .returned (.tuple #[v, .iface t q]) ∧ RdBad (MpolyBad NT) s0 litMpoly 12)) ∧ Below w.heap.size w w' := by
  have hf : FoldT s0 litMpoly := foldT_of hp (by decide) (by decide)
  have hn := hp.1
  have hgs := hg.size
  have hmf : ∀ (fn : Fn) (first cap : Array Value) (w : World), (Instr.makeFunc fn first cap).run Tryz.prog w = .ok (.func fn first cap) w := fun _ _ _ _ => rfl
  have hse : (s0.extract 12 s0.size).size ≤ s0.size := by rw [extract_size _ _ _ (Nat.le_refl _)]; omega
  replace hg := hide hg
  replace hf := hide hf
  replace hp := hide hp
  go_enter Tryz.func28, Tryz.ntmps28
  go_wp2_with (first
    | (go_at_call 42; (refine (fold_any B s0 litMpoly _ hg.out (by omega) (by decide) hf.out).mono ?_); rintro e wf ⟨⟨b, rfl, hb1, hb2⟩, hbf⟩; replace hb1 := hide hb1; replace hb2 := hide hb2; replace hbf := hide hbf; cases b)
    | (go_at_call 40; (with_reducible refine (brackets_any B (s0.extract 12 s0.size) _ (hg.out.up hbf.out) (by omega)).mono ?_); rintro e wb ⟨⟨s, ⟨rfl, hbo⟩ | ⟨ty, q, rfl, hbb⟩⟩, hbelb⟩; all_goals (have hszb := Nat.le_trans hbf.out.size hbelb.size; (try have hsl := hbo.1); replace hbelb := hide (hbf.out.trans (hbelb.mono hbf.out.size))))
    | (go_at_call 46; (with_reducible refine (split55 N B wb (hg.out.up hbelb.out) s (by omega)).mono ?_); rintro e w2 ⟨W1, ps, hW1, hps, ⟨rfl, vi, rs, hbi, hci⟩ | ⟨t, q, rfl, p, hp, hpb, hfi⟩⟩; (have hsW := hW1.size); (have hbel2 := hide (hW1.trans (hci.bel.below hsW (Nat.le_refl _)))); (obtain ⟨ai, ci, rfl⟩ := own_shape hci.built.choose_spec.2.2.1); (have hc1 := hci.blk.cell 0); (simp only [List.getElem?_toArray, List.getElem?_cons_zero] at hc1); (replace hci := hide hci)))
  · go_ret2
    exact ⟨⟨_, .inl ⟨rs, rfl, (hci.out.built.sup.mono hsW).mono hszb, fun h => absurd (hb1.out h) (by simp), .inr ⟨s, ps, by rw [tx_bs]; exact hbo, hps, hci.out.all⟩⟩⟩, hbelb.out.trans (hbel2.out.mono hszb)⟩
  · go_ret2
    exact ⟨⟨_, .inr ⟨t, q, rfl, fun h => absurd (hb1.out h) (by simp), .inr ⟨s, ps, by rw [tx_bs]; exact hbo, hps, p, hp, hpb⟩⟩⟩, hbelb.out.trans ((hW1.trans (hfi.below hW1.size (Nat.le_refl _))).mono hszb)⟩
  · go_ret2
    exact ⟨⟨_, .inr ⟨ty, q, rfl, fun h => absurd (hb1.out h) (by simp), .inl (by rw [tx_bs]; exact hbb)⟩⟩, hbelb.out⟩
  · go_ret2
    exact ⟨⟨_, .inl ⟨[], rfl, isSl_nil _ _ _ _ _ _, fun _ => rfl, .inl ⟨rfl, hb2.out trivial⟩⟩⟩, hbf.out.trans ((below_alloc wf _).mono hbf.out.size)⟩
end Go.Proofs.YtgmbjdoifkjdhaaGreatDoor
end
