/- Unmarshal. -/
import Derived.Test.YtgmbjdoifkjdhaaGreatDoorKj
import Derived.Lib.SlBytesConst
namespace Go.Proofs.YtgmbjdoifkjdhaaGreatDoor
open Go.RowKit

theorem Pre.le {s lit : ByteArray} {n : Nat} (h : Pre s lit n) : n ≤ s.size := h.1
def upXs (s : ByteArray) : List Int := (List.range 20).map (upI s)
theorem upI_byte (s : ByteArray) (k : Nat) : 0 ≤ upI s k ∧ upI s k < 256 := by
  unfold upI
  split
  · rename_i h
    have := s[k].toNat_lt
    split <;> omega
  · omega
theorem pre_iff (s lit : ByteArray) (n : Nat) (ys : List Int) (hn : n ≤ 20) (hl : n ≤ lit.size) (h0 : ∀ k (h : k < lit.size), k < n → lit[k].toNat ≠ 0) (hy : ys = ((bs lit).take n).map fun c => (c.toNat : Int)) :
    Lib.hasPrefix (Lib.bytesOf (upXs s)) (Lib.bytesOf ys) = true ↔ Pre s lit n := by
  have hb : Lib.bytesOf ys = (bs lit).take n := by
    rw [hy]; unfold Lib.bytesOf
    rw [List.map_map]
    conv => rhs; rw [← List.map_id ((bs lit).take n)]
    apply List.map_congr_left
    intro c _
    simp
  have hx : Lib.bytesOf (upXs s) = (List.range 20).map fun k => UInt8.ofNat (upI s k).toNat := by
    unfold Lib.bytesOf upXs; rw [List.map_map]; rfl
  rw [hb, hx]
  unfold Lib.hasPrefix
  rw [List.isPrefixOf_iff_prefix, List.prefix_iff_eq_take]
  have hlen : ((bs lit).take n).length = n := by rw [List.length_take, bs_len]; omega
  rw [hlen]
  constructor
  · intro h
    have hk : ∀ k (hk : k < lit.size), k < n → upI s k = (lit[k].toNat : Int) := by
      intro k hk hkn
      have h1 := congrArg (fun l => l[k]?) h
      simp only [List.getElem?_take_of_lt hkn, bs_at lit k hk, List.getElem?_map, List.getElem?_range (show k < 20 by omega), Option.map_some] at h1
      injection h1 with h1
      have h2 := upI_byte s k
      rw [h1, UInt8.toNat_ofNat']
      omega
    refine ⟨?_, hl, hk⟩
    rcases Nat.eq_zero_or_pos n with h2 | h2
    · omega
    · have h3 := hk (n - 1) (by omega) (by omega)
      have h4 := h0 (n - 1) (by omega) (by omega)
      rcases Nat.lt_or_ge (n - 1) s.size with h5 | h5
      · omega
      · unfold upI at h3
        rw [dif_neg (by omega)] at h3
        omega
  · intro h
    apply List.ext_getElem?
    intro k
    by_cases hkn : k < n
    · rw [List.getElem?_take_of_lt hkn, List.getElem?_take_of_lt hkn, bs_at lit k (by omega), List.getElem?_map, List.getElem?_range (show k < 20 by omega), Option.map_some]
      have := h.2.2 k (by omega) hkn
      rw [this]
      simp
    · rw [List.getElem?_eq_none (by rw [hlen]; omega), List.getElem?_eq_none (by rw [List.length_take]; omega)]
theorem lit_at {w : World} {b : Nat} (t : TypeId) (cs : Array Value) (fr : Nat × Nat) (h : b = w.heap.size) : ∀ i, (w.alloc (.cells cs t fr)).cell? ⟨b, i, none⟩ = cs[i]? := by
  subst h; intro i; exact cell_of_row _ _ i cs t fr (heap_alloc_new w _)
theorem under5 : Tryz.prog.underlying 5 = some (.int .u8) := by kernel_rfl
theorem hasPre (s lit : ByteArray) (n : Nat) (ys : List Int) (hn : n ≤ 20) (hl : n ≤ lit.size) (h0 : ∀ k (h : k < lit.size), k < n → lit[k].toNat ≠ 0) (hy : ys = ((bs lit).take n).map fun c => (c.toNat : Int)) (hyl : ys.length = n)
    (w : World) (g g2 : Nat) (cs cs2 : Array Value) (hu : UpTo s 20 cs) (hb : Blk w g 5 cs) (hb2 : ∀ i, w.cell? ⟨g2, i, none⟩ = cs2[i]?) (hcs : cs2 = (ys.map (Value.int .u8)).toArray) :
    Calls Tryz.prog 22 #[.slice (some ⟨g, 0, none⟩) 20 20, .slice (some ⟨g2, 0, none⟩) n n] w fun e w' => ∃ b, e = .returned (.bool b) ∧ (b = true ↔ Pre s lit n) ∧ Below w.heap.size w w' := by
  refine (Tryz.bytes_HasPrefix_all (some ⟨g, 0, none⟩) (some ⟨g2, 0, none⟩) 20 20 n n (upXs s) ys w (by simp [upXs]) hyl (Nat.le_refl _) ?_ ?_).mono ?_
  · intro _
    refine ⟨g, 0, rfl, fun i hi => ?_⟩
    rw [Nat.zero_add, hb.cell, hu.2 i hi, if_pos hi]
    congr 2
    simp [upXs, hi]
  · intro _
    refine ⟨g2, 0, rfl, fun i hi => ?_⟩
    rw [Nat.zero_add, hb2, hcs, List.getElem?_toArray, List.getElem?_map, List.getElem?_eq_getElem (by omega)]
    simp [hyl, hi]
  · rintro e w' ⟨rfl, rfl⟩
    exact ⟨_, rfl, pre_iff s lit n ys hn hl h0 hy, Below.refl _ _⟩
theorem has_litPoint (s : ByteArray) (w : World) (g g2 : Nat) (cs : Array Value) (hu : UpTo s 20 cs) (hb : Blk w g 5 cs) (hb2 : ∀ i, w.cell? ⟨g2, i, none⟩ = (#[.int .u8 80, .int .u8 79, .int .u8 73, .int .u8 78, .int .u8 84] : Array Value)[i]?) :
    Calls Tryz.prog 22 #[.slice (some ⟨g, 0, none⟩) 20 20, .slice (some ⟨g2, 0, none⟩) 5 5] w fun e w' => ∃ b, e = .returned (.bool b) ∧ (b = true ↔ Pre s litPoint 5) ∧ Below w.heap.size w w' :=
  hasPre s litPoint 5 [80, 79, 73, 78, 84] (by decide) (by decide) (by decide) (by decide) rfl w g g2 cs _ hu hb hb2 rfl
theorem has_litLine (s : ByteArray) (w : World) (g g2 : Nat) (cs : Array Value) (hu : UpTo s 20 cs) (hb : Blk w g 5 cs) (hb2 : ∀ i, w.cell? ⟨g2, i, none⟩ = (#[.int .u8 76, .int .u8 73, .int .u8 78, .int .u8 69, .int .u8 83, .int .u8 84, .int .u8 82, .int .u8 73, .int .u8 78, .int .u8 71] : Array Value)[i]?) :
    Calls Tryz.prog 22 #[.slice (some ⟨g, 0, none⟩) 20 20, .slice (some ⟨g2, 0, none⟩) 10 10] w fun e w' => ∃ b, e = .returned (.bool b) ∧ (b = true ↔ Pre s litLine 10) ∧ Below w.heap.size w w' :=
  hasPre s litLine 10 [76, 73, 78, 69, 83, 84, 82, 73, 78, 71] (by decide) (by decide) (by decide) (by decide) rfl w g g2 cs _ hu hb hb2 rfl
theorem has_litPoly (s : ByteArray) (w : World) (g g2 : Nat) (cs : Array Value) (hu : UpTo s 20 cs) (hb : Blk w g 5 cs) (hb2 : ∀ i, w.cell? ⟨g2, i, none⟩ = (#[.int .u8 80, .int .u8 79, .int .u8 76, .int .u8 89, .int .u8 71, .int .u8 79, .int .u8 78] : Array Value)[i]?) :
    Calls Tryz.prog 22 #[.slice (some ⟨g, 0, none⟩) 20 20, .slice (some ⟨g2, 0, none⟩) 7 7] w fun e w' => ∃ b, e = .returned (.bool b) ∧ (b = true ↔ Pre s litPoly 7) ∧ Below w.heap.size w w' :=
  hasPre s litPoly 7 [80, 79, 76, 89, 71, 79, 78] (by decide) (by decide) (by decide) (by decide) rfl w g g2 cs _ hu hb hb2 rfl
theorem has_litMulti (s : ByteArray) (w : World) (g g2 : Nat) (cs : Array Value) (hu : UpTo s 20 cs) (hb : Blk w g 5 cs) (hb2 : ∀ i, w.cell? ⟨g2, i, none⟩ = (#[.int .u8 77, .int .u8 85, .int .u8 76, .int .u8 84, .int .u8 73, .int .u8 80, .int .u8 79, .int .u8 73, .int .u8 78, .int .u8 84] : Array Value)[i]?) :
    Calls Tryz.prog 22 #[.slice (some ⟨g, 0, none⟩) 20 20, .slice (some ⟨g2, 0, none⟩) 10 10] w fun e w' => ∃ b, e = .returned (.bool b) ∧ (b = true ↔ Pre s litMulti 10) ∧ Below w.heap.size w w' :=
  hasPre s litMulti 10 [77, 85, 76, 84, 73, 80, 79, 73, 78, 84] (by decide) (by decide) (by decide) (by decide) rfl w g g2 cs _ hu hb hb2 rfl
theorem has_litMline (s : ByteArray) (w : World) (g g2 : Nat) (cs : Array Value) (hu : UpTo s 20 cs) (hb : Blk w g 5 cs) (hb2 : ∀ i, w.cell? ⟨g2, i, none⟩ = (#[.int .u8 77, .int .u8 85, .int .u8 76, .int .u8 84, .int .u8 73, .int .u8 76, .int .u8 73, .int .u8 78, .int .u8 69, .int .u8 83, .int .u8 84, .int .u8 82, .int .u8 73, .int .u8 78, .int .u8 71] : Array Value)[i]?) :
    Calls Tryz.prog 22 #[.slice (some ⟨g, 0, none⟩) 20 20, .slice (some ⟨g2, 0, none⟩) 15 15] w fun e w' => ∃ b, e = .returned (.bool b) ∧ (b = true ↔ Pre s litMline 15) ∧ Below w.heap.size w w' :=
  hasPre s litMline 15 [77, 85, 76, 84, 73, 76, 73, 78, 69, 83, 84, 82, 73, 78, 71] (by decide) (by decide) (by decide) (by decide) rfl w g g2 cs _ hu hb hb2 rfl
theorem has_litMpoly (s : ByteArray) (w : World) (g g2 : Nat) (cs : Array Value) (hu : UpTo s 20 cs) (hb : Blk w g 5 cs) (hb2 : ∀ i, w.cell? ⟨g2, i, none⟩ = (#[.int .u8 77, .int .u8 85, .int .u8 76, .int .u8 84, .int .u8 73, .int .u8 80, .int .u8 79, .int .u8 76, .int .u8 89, .int .u8 71, .int .u8 79, .int .u8 78] : Array Value)[i]?) :
    Calls Tryz.prog 22 #[.slice (some ⟨g, 0, none⟩) 20 20, .slice (some ⟨g2, 0, none⟩) 12 12] w fun e w' => ∃ b, e = .returned (.bool b) ∧ (b = true ↔ Pre s litMpoly 12) ∧ Below w.heap.size w w' :=
  hasPre s litMpoly 12 [77, 85, 76, 84, 73, 80, 79, 76, 89, 71, 79, 78] (by decide) (by decide) (by decide) (by decide) rfl w g g2 cs _ hu hb hb2 rfl
theorem has_litColl (s : ByteArray) (w : World) (g g2 : Nat) (cs : Array Value) (hu : UpTo s 20 cs) (hb : Blk w g 5 cs) (hb2 : ∀ i, w.cell? ⟨g2, i, none⟩ = (#[.int .u8 71, .int .u8 69, .int .u8 79, .int .u8 77, .int .u8 69, .int .u8 84, .int .u8 82, .int .u8 89, .int .u8 67, .int .u8 79, .int .u8 76, .int .u8 76, .int .u8 69, .int .u8 67, .int .u8 84, .int .u8 73, .int .u8 79, .int .u8 78] : Array Value)[i]?) :
    Calls Tryz.prog 22 #[.slice (some ⟨g, 0, none⟩) 20 20, .slice (some ⟨g2, 0, none⟩) 18 18] w fun e w' => ∃ b, e = .returned (.bool b) ∧ (b = true ↔ Pre s litColl 18) ∧ Below w.heap.size w w' :=
  hasPre s litColl 18 [71, 69, 79, 77, 69, 84, 82, 89, 67, 79, 76, 76, 69, 67, 84, 73, 79, 78] (by decide) (by decide) (by decide) (by decide) rfl w g g2 cs _ hu hb hb2 rfl

set_option maxHeartbeats 4000000 in
set_option maxRecDepth 100000 in
theorem unmarshal_step {NT : List UInt8 → Nat → Prop} (N : NumIO NT) (B : Nat) (s0 : ByteArray) (w : World) (hg : Glob B w) (hs : s0.size ≤ 1099511627776)
    (hun : ∀ (u : ByteArray) (w : World), Glob B w → u.size + 18 ≤ s0.size → Calls Tryz.prog 10 #[.string u] w (UnOut NT u w)) : Calls Tryz.prog 10 #[.string s0] w (UnOut NT s0 w) := by
  have hgs := hg.size
  obtain ⟨et, ep, he1⟩ := hg.e0
  have kc := fun (w : World) (C : Array Value) (n c : Nat) => Lib.run_convert_bytes_const (P := Tryz.prog) w 66 5 C n c under66 under5
  replace hg := hide hg
  replace hun := hide hun
  go_enter Tryz.func10, Tryz.ntmps10
  go_wp2_with (first
    | (go_at_call 20; (with_reducible refine (trim_any s0 _ hs).mono ?_); rintro e w' ⟨s, rfl, ht, rfl⟩; have hsl := ht.1; replace ht := hide ht)
    | (go_at_call 21; (with_reducible refine (upper_any s _ (by omega)).mono ?_); rintro e w1 ⟨rfl, ⟨cs, hu, hb⟩, hbel⟩; replace hu := hide hu; replace hb := hide hb; replace hbel := hide hbel)
    | (go_at_call 22; (with_reducible refine (has_litPoint s _ _ _ cs hu.out ?_ ?_).mono ?_); (· exact hb.out.alloc _); (· exact lit_at _ _ _ rfl); rintro e w2 ⟨b, rfl, hlitPoint, hbl⟩; replace hlitPoint := hide hlitPoint; (have hbel := hide (hbel.out.trans (((below_alloc _ _).trans (hbl.mono (by simp))).mono hbel.out.size))); (have hb := hide ((hb.out.alloc _).below hbl (hb.out.alloc _).lt)); clear hbl; cases b)
    | (go_at_call 22; (with_reducible refine (has_litLine s _ _ _ cs hu.out ?_ ?_).mono ?_); (· exact hb.out.alloc _); (· exact lit_at _ _ _ rfl); rintro e w2 ⟨b, rfl, hlitLine, hbl⟩; replace hlitLine := hide hlitLine; (have hbel := hide (hbel.out.trans (((below_alloc _ _).trans (hbl.mono (by simp))).mono hbel.out.size))); (have hb := hide ((hb.out.alloc _).below hbl (hb.out.alloc _).lt)); clear hbl; cases b)
    | (go_at_call 22; (with_reducible refine (has_litPoly s _ _ _ cs hu.out ?_ ?_).mono ?_); (· exact hb.out.alloc _); (· exact lit_at _ _ _ rfl); rintro e w2 ⟨b, rfl, hlitPoly, hbl⟩; replace hlitPoly := hide hlitPoly; (have hbel := hide (hbel.out.trans (((below_alloc _ _).trans (hbl.mono (by simp))).mono hbel.out.size))); (have hb := hide ((hb.out.alloc _).below hbl (hb.out.alloc _).lt)); clear hbl; cases b)
    | (go_at_call 22; (with_reducible refine (has_litMulti s _ _ _ cs hu.out ?_ ?_).mono ?_); (· exact hb.out.alloc _); (· exact lit_at _ _ _ rfl); rintro e w2 ⟨b, rfl, hlitMulti, hbl⟩; replace hlitMulti := hide hlitMulti; (have hbel := hide (hbel.out.trans (((below_alloc _ _).trans (hbl.mono (by simp))).mono hbel.out.size))); (have hb := hide ((hb.out.alloc _).below hbl (hb.out.alloc _).lt)); clear hbl; cases b)
    | (go_at_call 22; (with_reducible refine (has_litMline s _ _ _ cs hu.out ?_ ?_).mono ?_); (· exact hb.out.alloc _); (· exact lit_at _ _ _ rfl); rintro e w2 ⟨b, rfl, hlitMline, hbl⟩; replace hlitMline := hide hlitMline; (have hbel := hide (hbel.out.trans (((below_alloc _ _).trans (hbl.mono (by simp))).mono hbel.out.size))); (have hb := hide ((hb.out.alloc _).below hbl (hb.out.alloc _).lt)); clear hbl; cases b)
    | (go_at_call 22; (with_reducible refine (has_litMpoly s _ _ _ cs hu.out ?_ ?_).mono ?_); (· exact hb.out.alloc _); (· exact lit_at _ _ _ rfl); rintro e w2 ⟨b, rfl, hlitMpoly, hbl⟩; replace hlitMpoly := hide hlitMpoly; (have hbel := hide (hbel.out.trans (((below_alloc _ _).trans (hbl.mono (by simp))).mono hbel.out.size))); (have hb := hide ((hb.out.alloc _).below hbl (hb.out.alloc _).lt)); clear hbl; cases b)
    | (go_at_call 22; (with_reducible refine (has_litColl s _ _ _ cs hu.out ?_ ?_).mono ?_); (· exact hb.out.alloc _); (· exact lit_at _ _ _ rfl); rintro e w2 ⟨b, rfl, hlitColl, hbl⟩; replace hlitColl := hide hlitColl; (have hbel := hide (hbel.out.trans (((below_alloc _ _).trans (hbl.mono (by simp))).mono hbel.out.size))); (have hb := hide ((hb.out.alloc _).below hbl (hb.out.alloc _).lt)); clear hbl; cases b)
    | (go_at_call 23; (with_reducible refine (rdPoint N B s w2 (hg.out.up hbel.out) (by omega) (hlitPoint.out.mp (by trivial)).le).mono ?_); rintro e w3 ⟨⟨v, ⟨rfl, hrd⟩ | ⟨t, q, rfl, hbd⟩⟩, hbl3⟩)
    | (go_at_call 24; (with_reducible refine (rdLine N B s w2 (hg.out.up hbel.out) (by omega) (hlitLine.out.mp (by trivial))).mono ?_); rintro e w3 ⟨⟨v, ⟨ps, rfl, hsp, hrd⟩ | ⟨t, q, rfl, hbd⟩⟩, hbl3⟩)
    | (go_at_call 25; (with_reducible refine (rdPoly N B s w2 (hg.out.up hbel.out) (by omega) (hlitPoly.out.mp (by trivial))).mono ?_); rintro e w3 ⟨⟨v, ⟨ps, rfl, hsp, hrd⟩ | ⟨t, q, rfl, hbd⟩⟩, hbl3⟩)
    | (go_at_call 26; (with_reducible refine (rdMulti N B s w2 (hg.out.up hbel.out) (by omega) (hlitMulti.out.mp (by trivial))).mono ?_); rintro e w3 ⟨⟨v, ⟨ps, rfl, hsp, hrd⟩ | ⟨t, q, rfl, hbd⟩⟩, hbl3⟩)
    | (go_at_call 27; (with_reducible refine (rdMline N B s w2 (hg.out.up hbel.out) (by omega) (hlitMline.out.mp (by trivial))).mono ?_); rintro e w3 ⟨⟨v, ⟨ps, rfl, hsp, hrd⟩ | ⟨t, q, rfl, hbd⟩⟩, hbl3⟩)
    | (go_at_call 28; (with_reducible refine (rdMpoly N B s w2 (hg.out.up hbel.out) (by omega) (hlitMpoly.out.mp (by trivial))).mono ?_); rintro e w3 ⟨⟨v, ⟨ps, rfl, hsp, hrd⟩ | ⟨t, q, rfl, hbd⟩⟩, hbl3⟩)
    | (go_at_call 29; (with_reducible refine (rdColl B s w2 (hg.out.up hbel.out) (by omega) (hlitColl.out.mp (by trivial)) (fun u w h1 h2 => hun.out u w h1 (by omega))).mono ?_); rintro e w3 ⟨⟨v, ⟨ps, rfl, hsp, hrd⟩ | ⟨t, q, rfl, hbd⟩⟩, hbl3⟩))
  · have he2 := cell_up hbel.out he1
    go_quiet (fail)
    go_wp2
    go_ret2
    exact ⟨⟨_, .inr ⟨et, ep, rfl, .none ht.out (fun h => absurd (hlitPoint.out.mpr h) (by simp)) (fun h => absurd (hlitLine.out.mpr h) (by simp)) (fun h => absurd (hlitPoly.out.mpr h) (by simp)) (fun h => absurd (hlitMulti.out.mpr h) (by simp)) (fun h => absurd (hlitMline.out.mpr h) (by simp)) (fun h => absurd (hlitMpoly.out.mpr h) (by simp)) (fun h => absurd (hlitColl.out.mpr h) (by simp))⟩⟩, below_drewN hbel.out _⟩
  · go_ret2
    refine ⟨⟨_, .inl ⟨.coll ps, rfl, ((hsp.mono hbel.out.size).imp fun w h => .ofSl h), ?_⟩⟩, hbel.out.trans (hbl3.mono hbel.out.size)⟩
    rcases hrd with ⟨rfl, he⟩ | ⟨hne, t, us, h1, h2, h3, h4⟩
    · exact .empty ht.out (hlitColl.out.mp (by trivial)) he
    · exact .coll ht.out (hlitColl.out.mp (by trivial)) hne h1 h2 h3 h4
  · go_ret2
    refine ⟨⟨_, .inr ⟨t, q, rfl, ?_⟩⟩, hbel.out.trans (hbl3.mono hbel.out.size)⟩
    rcases hbd with h1 | ⟨hne, h1⟩ | ⟨hne, t, us, u, h1, h2, h3, h4⟩
    · exact .short ht.out (hlitColl.out.mp (by trivial)) h1
    · exact .brackets ht.out (hlitColl.out.mp (by trivial)) hne h1
    · exact .member ht.out (hlitColl.out.mp (by trivial)) hne h1 h2 h3 h4
  · go_ret2
    exact ⟨⟨_, .inl ⟨.mpoly ps, rfl, ((hsp.mono hbel.out.size).imp fun w h => GeoIs.mpoly h), .mpoly ht.out (hlitMpoly.out.mp (by trivial)) hrd⟩⟩, hbel.out.trans (hbl3.mono hbel.out.size)⟩
  · go_ret2
    exact ⟨⟨_, .inr ⟨t, q, rfl, .mpoly ht.out (hlitMpoly.out.mp (by trivial)) hbd⟩⟩, hbel.out.trans (hbl3.mono hbel.out.size)⟩
  · go_ret2
    exact ⟨⟨_, .inl ⟨.mline ps, rfl, ((hsp.mono hbel.out.size).imp fun w h => GeoIs.mline h), .mline ht.out (hlitMline.out.mp (by trivial)) hrd⟩⟩, hbel.out.trans (hbl3.mono hbel.out.size)⟩
  · go_ret2
    exact ⟨⟨_, .inr ⟨t, q, rfl, .mline ht.out (hlitMline.out.mp (by trivial)) hbd⟩⟩, hbel.out.trans (hbl3.mono hbel.out.size)⟩
  · go_ret2
    exact ⟨⟨_, .inl ⟨.mpt ps, rfl, ((hsp.mono hbel.out.size).imp fun w h => GeoIs.mpt h), .mpt ht.out (hlitMulti.out.mp (by trivial)) hrd⟩⟩, hbel.out.trans (hbl3.mono hbel.out.size)⟩
  · go_ret2
    exact ⟨⟨_, .inr ⟨t, q, rfl, .mpt ht.out (hlitMulti.out.mp (by trivial)) hbd⟩⟩, hbel.out.trans (hbl3.mono hbel.out.size)⟩
  · go_ret2
    exact ⟨⟨_, .inl ⟨.poly ps, rfl, ((hsp.mono hbel.out.size).imp fun w h => GeoIs.poly h), .poly ht.out (hlitPoly.out.mp (by trivial)) hrd⟩⟩, hbel.out.trans (hbl3.mono hbel.out.size)⟩
  · go_ret2
    exact ⟨⟨_, .inr ⟨t, q, rfl, .poly ht.out (hlitPoly.out.mp (by trivial)) hbd⟩⟩, hbel.out.trans (hbl3.mono hbel.out.size)⟩
  · go_ret2
    exact ⟨⟨_, .inl ⟨.line ps, rfl, ((hsp.mono hbel.out.size).imp fun w h => GeoIs.line h), .line ht.out (hlitLine.out.mp (by trivial)) hrd⟩⟩, hbel.out.trans (hbl3.mono hbel.out.size)⟩
  · go_ret2
    exact ⟨⟨_, .inr ⟨t, q, rfl, .line ht.out (hlitLine.out.mp (by trivial)) hbd⟩⟩, hbel.out.trans (hbl3.mono hbel.out.size)⟩
  · go_ret2
    exact ⟨⟨_, .inl ⟨.pt v, rfl, Sup.imp (R := fun _ => True) (Sup.pure trivial) (fun w _ => GeoIs.pt), .pt ht.out (hlitPoint.out.mp (by trivial)) hrd⟩⟩, hbel.out.trans (hbl3.mono hbel.out.size)⟩
  · go_ret2
    exact ⟨⟨_, .inr ⟨t, q, rfl, .pt ht.out (hlitPoint.out.mp (by trivial)) hbd⟩⟩, hbel.out.trans (hbl3.mono hbel.out.size)⟩

/-- Unmarshal, of any text. -/
theorem unmarshal_any {NT : List UInt8 → Nat → Prop} (N : NumIO NT) (B : Nat) : ∀ (n : Nat) (s0 : ByteArray) (w : World), s0.size ≤ n → Glob B w → s0.size ≤ 1099511627776 → Calls Tryz.prog 10 #[.string s0] w (UnOut NT s0 w) := by
  intro n
  induction n with
  | zero => exact fun s0 w h hg hs => unmarshal_step N B s0 w hg hs fun u w' _ h2 => absurd h2 (by omega)
  | succ n ih => exact fun s0 w h hg hs => unmarshal_step N B s0 w hg hs fun u w' h1 h2 => ih u w' (by omega) h1 (by omega)
end Go.Proofs.YtgmbjdoifkjdhaaGreatDoor
