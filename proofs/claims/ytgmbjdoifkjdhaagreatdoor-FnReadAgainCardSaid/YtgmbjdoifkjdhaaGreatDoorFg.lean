/- FormatFloat and number: numbers are written. How much a geometry that was read can hold. -/
import Derived.Test.YtgmbjdoifkjdhaaGreatDoorFf
import Derived.Test.YtgmbjdoifkjdhaaGreatDoorKq
import Derived.Test.YtgmbjdoifkjdhaaGreatDoorKt
section
namespace Go.Proofs.YtgmbjdoifkjdhaaGreatDoor
open Go.RowKit

def FfOut (x : Nat) (w : World) (e : Ending) (w' : World) : Prop := (∃ s, e = .returned (.string s) ∧ NT (bs s) x ∧ s.size ≤ 24) ∧ Below w.heap.size w w'
theorem under9 : Tryz.prog.underlying 9 = some .string := by kernel_rfl
set_option maxRecDepth 100000 in
theorem dst_string {d : Nat} {l : List UInt8} {W0 w : World} (h : Dst d l W0 w) (cap : Nat) : (convert 66 9 (.slice (some ⟨d, 0, none⟩) l.length cap)).run Tryz.prog w = .ok (.string (tx l)) w := by
  have ho := h.own.2
  rcases ho with ⟨h1, _⟩ | ⟨g, c, cur, h1, _, hg, _, _, _, htk⟩
  · injection h1 with h1 _ _
    cases h1
  · injection h1 with h1 _ _
    injection h1 with h1
    injection h1 with h1 _ _
    subst h1
    exact run_convert_bytes_back (P := Tryz.prog) w 66 9 5 ⟨d, 0, none⟩ cap l under66 under5 under9 (Lib.bytes_of_row (w := w) hg (by simpa using htk))
set_option maxHeartbeats 1000000 in
theorem ff_any (B x : Nat) (w : World) (hG : Glob B w) (hx : Fl.Good x) : Calls Tryz.prog 74 #[.float .f64 x, .int .u8 103, .int .i64 (-1), .int .i64 64] w (FfOut x w) := by
  obtain ⟨i0, hi, hz0, hz1, hz2⟩ := info_parts info5
  replace hG := hide hG
  replace hx := hide hx
  go_enter Tryz.func74, Tryz.ntmps74
  go_wp2_with (first
    | (at_make; refine wpList_make_own _ rfl _ _ 66 rfl w.heap.size 5 i0 (.int .u8 0) 1 under66 hi hz0 hz1 .i64 .i64 24 24 rfl rfl rfl (by omega) (by decide) (Nat.le_refl _) ?_; intro w1 hown1 hgrow1; (have hb1 := hide ((Below.refl w.heap.size w).grown hgrow1 (Nat.le_refl _) (by simp))); replace hown1 := hide hown1; clear hgrow1)
    | (go_at_call 84; refine (ftoa_any B w.heap.size x w1 (hG.out.up hb1.out) hx.out hown1.out).mono ?_; rintro e w2 ⟨l, rfl, hnt, hl, hD⟩; (have hcv := dst_string hD 24); replace hD := hide hD; replace hnt := hide hnt))
  go_ret
  exact ⟨⟨tx l, rfl, by rw [bs_tx]; exact hnt.out, by rw [tx_size]; exact hl⟩, hb1.out.grown hD.out.gr hb1.out.size (fun k hk => by injection hk with hk; omega)⟩
theorem format_any (B x : Nat) (w : World) (hG : Glob B w) (hx : Fl.Good x) : Calls Tryz.prog 63 #[.float .f64 x, .int .u8 103, .int .i64 (-1), .int .i64 64] w (FfOut x w) := by
  replace hG := hide hG
  replace hx := hide hx
  go_enter Tryz.func63, Tryz.ntmps63
  go_wp2_with (first
    | (go_at_call 74; (with_reducible refine (ff_any B x _ hG.out hx.out).mono ?_); rintro e w1 ⟨⟨s, rfl, hnt, hs⟩, hb⟩; replace hnt := hide hnt; replace hb := hide hb))
  go_ret
  exact ⟨⟨s, rfl, hnt.out, hs⟩, hb.out⟩
theorem number_any (B x : Nat) (w : World) (hG : Glob B w) (hx : Fl.Good x) : Calls Tryz.prog 34 #[.float .f64 x] w (FfOut x w) := by
  replace hG := hide hG
  replace hx := hide hx
  go_enter Tryz.func34, Tryz.ntmps34
  go_wp2_with (first
    | (go_at_call 63; (with_reducible refine (format_any B x _ hG.out hx.out).mono ?_); rintro e w1 ⟨⟨s, rfl, hnt, hs⟩, hb⟩; replace hnt := hide hnt; replace hb := hide hb))
  go_ret
  exact ⟨⟨s, rfl, hnt.out, hs⟩, hb.out⟩
theorem numOut : NumOut NT := ⟨fun B x w hG hx => number_any B x w hG hx⟩
end Go.Proofs.YtgmbjdoifkjdhaaGreatDoor
end
section
namespace Go.Proofs.YtgmbjdoifkjdhaaGreatDoor
open Go.RowKit

theorem All2.sum {X : Type} {R : List UInt8 → X → Prop} {ps : List (List UInt8)} {xs : List X} (h : All2 R ps xs) (f : X → Nat) (A C : Nat) (hf : ∀ p x, R p x → f x ≤ A * p.length + C) : (xs.map f).sum ≤ A * (ps.map List.length).sum + C * ps.length := by
  induction h with
  | nil => simp
  | @cons p x ps xs h1 _ ih =>
    have := hf p x h1
    rw [List.map_cons, List.sum_cons, List.map_cons, List.sum_cons, List.length_cons, Nat.mul_add, Nat.mul_add]
    omega
theorem rsp_sum (s : ByteArray) (dbl : Bool) : ∀ (ms : List (Nat × Nat)) (a i : Nat), Mts s dbl i ms → a ≤ i → a ≤ s.size → ((rsp s a ms).map List.length).sum ≤ s.size - a := by
  intro ms
  induction ms with
  | nil => intro a i _ _ ha; simp only [rsp, List.map_cons, List.map_nil, List.sum_cons, List.sum_nil]; rw [ex_len s a s.size (Nat.le_refl _)]; omega
  | cons m ms ih =>
    intro a i h hai ha
    obtain ⟨f, t⟩ := m
    obtain ⟨n, h1, h2, h3, h4, h5⟩ := h.head rfl
    have h6 := ih t n h5 (by omega) (by omega)
    simp only [rsp, List.map_cons, List.sum_cons]
    rw [ex_len s a f (by omega)]
    omega
theorem parts_sum {t : ByteArray} {dbl : Bool} {ps : List (List UInt8)} (h : Parts t dbl ps) : (ps.map List.length).sum ≤ t.size := by
  obtain ⟨ms, h1, rfl⟩ := h
  have := rsp_sum t dbl ms 0 0 h1 (Nat.le_refl _) (Nat.zero_le _)
  omega
theorem gsp_sum (l : List UInt8) : ∀ d cur, ((gsp l d cur).map List.length).sum + (gsp l d cur).length = cur.length + l.length + 1 := by
  induction l with
  | nil => intro d cur; simp [gsp]
  | cons c t ih =>
    intro d cur
    simp only [gsp, List.length_cons]
    split
    · have := ih (d + 1) (cur ++ [c]); rw [List.length_append, List.length_singleton] at this; omega
    · split
      · have := ih (d - 1) (cur ++ [c]); rw [List.length_append, List.length_singleton] at this; omega
      · split
        · split
          · have := ih d []; rw [List.length_nil] at this; rw [List.map_cons, List.sum_cons, List.length_cons]; omega
          · have := ih d (cur ++ [c]); rw [List.length_append, List.length_singleton] at this; omega
        · have := ih d (cur ++ [c]); rw [List.length_append, List.length_singleton] at this; omega
theorem gsp_pos (l : List UInt8) : ∀ d cur, 1 ≤ (gsp l d cur).length := by
  induction l with
  | nil => intro d cur; simp [gsp]
  | cons c t ih =>
    intro d cur
    simp only [gsp]
    repeat' split
    all_goals first
      | exact ih _ _
      | simp
theorem poly_cost {NT : List UInt8 → Nat → Prop} {l : List UInt8} {rs : List (List (Nat × Nat))} (h : PolyR NT l rs) : crow rs ≤ 3 * l.length + 2 := by
  obtain ⟨t, ps, h1, h2, h3⟩ := h
  have h4 := h1.1
  rw [tx_size] at h4
  have h5 := parts_size h2
  have h6 := parts_sum h2
  have h7 : (rs.map fun r => r.length + 1).sum ≤ 1 * (ps.map List.length).sum + 2 * ps.length := h3.sum _ 1 2 fun p x hx => by have := ring_size hx; omega
  unfold crow
  omega
theorem mpoly_cost {NT : List UInt8 → Nat → Prop} {l : List UInt8} {xs : List (List (List (Nat × Nat)))} (h : MpolyR NT l xs) : cpol xs ≤ 6 * l.length + 3 := by
  obtain ⟨t, ps, h1, h2, h3⟩ := h
  have h4 := h1.1
  rw [tx_size] at h4
  have h5 := parts_size h2
  have h6 := parts_sum h2
  have h7 : (xs.map fun rs => crow rs + 1).sum ≤ 3 * (ps.map List.length).sum + 3 * ps.length := h3.sum _ 3 3 fun p x hx => by have := poly_cost hx; omega
  unfold cpol
  omega
theorem ext_len2 (s : ByteArray) (n : Nat) : (bs (s.extract n s.size)).length = s.size - n := by
  rw [bs_len, extract_size _ _ _ (Nat.le_refl _)]
theorem trims_lens {ps : List (List UInt8)} {us : List ByteArray} (h : Trims ps us) : (us.map ByteArray.size).sum ≤ (ps.map List.length).sum := by
  induction h with
  | nil => simp
  | @cons p u ps us h1 _ ih =>
    have := h1.1
    rw [tx_size] at this
    rw [List.map_cons, List.sum_cons, List.map_cons, List.sum_cons]
    omega
theorem sum_bound : ∀ (us : List ByteArray) (cs : List Nat), cs.length = us.length → (∀ (i : Nat) (u : ByteArray) (c : Nat), us[i]? = some u → cs[i]? = some c → c ≤ 6 * u.size + 1) → cs.sum ≤ 6 * (us.map ByteArray.size).sum + us.length := by
  intro us
  induction us with
  | nil =>
    intro cs hl _
    obtain rfl : cs = [] := List.eq_nil_of_length_eq_zero (by simpa using hl)
    simp
  | cons u us ih =>
    intro cs hl h
    cases cs with
    | nil => simp at hl
    | cons c cs =>
      have h1 := h 0 u c rfl rfl
      have h2 := ih cs (by simpa using hl) fun i u' c' hu hc => h (i + 1) u' c' hu hc
      rw [List.sum_cons, List.map_cons, List.sum_cons, List.length_cons]
      omega
theorem list_of {gs : List Geom} (P : Nat → Geom → Nat → Prop) (h : ∀ (i : Nat) (g : Geom), gs[i]? = some g → ∃ c, P i g c) : ∃ cs : List Nat, cs.length = gs.length ∧ ∀ (i : Nat) (g : Geom) (c : Nat), gs[i]? = some g → cs[i]? = some c → P i g c := by
  induction gs generalizing P with
  | nil => exact ⟨[], rfl, fun i g c h => by simp at h⟩
  | cons g gs ih =>
    obtain ⟨c, hc⟩ := h 0 g rfl
    obtain ⟨cs, h1, h2⟩ := ih (fun i => P (i + 1)) fun i g' hg => h (i + 1) g' hg
    refine ⟨c :: cs, by simp [h1], fun i g' c' hg hcc => ?_⟩
    cases i with
    | zero => simp at hg hcc; rw [← hg, ← hcc]; exact hc
    | succ i => exact h2 i g' c' hg hcc
theorem unr_cost {NT : List UInt8 → Nat → Prop} {s : ByteArray} {g : Geom} (h : UnR NT s g) : ∃ c, Cost g c ∧ c ≤ 6 * s.size + 1 := by
  induction h with
  | pt _ _ _ => exact ⟨1, .pt, by omega⟩
  | @line s0 s ps ht hp h =>
    have h1 := ht.1
    have h0 := hp.1
    rcases h.2 with ⟨rfl, _⟩ | h2
    · exact ⟨_, .line, by simp⟩
    · have h3 := ring_size h2
      rw [ext_len2 s 10] at h3
      exact ⟨_, .line, by omega⟩
  | @poly s0 s ps ht hp h =>
    have h1 := ht.1
    have h0 := hp.1
    rcases h.2 with ⟨rfl, _⟩ | h2
    · exact ⟨_, .poly, by simp [crow]⟩
    · have h3 := poly_cost h2
      rw [ext_len2 s 7] at h3
      exact ⟨_, .poly, by omega⟩
  | @mpt s0 s ps ht hp h =>
    have h1 := ht.1
    have h0 := hp.1
    rcases h.2 with ⟨rfl, _⟩ | h2
    · exact ⟨_, .mpt, by simp⟩
    · have h3 := mps_size h2
      rw [ext_len2 s 10] at h3
      exact ⟨_, .mpt, by omega⟩
  | @mline s0 s ps ht hp h =>
    have h1 := ht.1
    have h0 := hp.1
    rcases h.2 with ⟨rfl, _⟩ | h2
    · exact ⟨_, .mline, by simp [crow]⟩
    · have h3 := poly_cost h2
      rw [ext_len2 s 15] at h3
      exact ⟨_, .mline, by omega⟩
  | @mpoly s0 s ps ht hp h =>
    have h1 := ht.1
    have h0 := hp.1
    rcases h.2 with ⟨rfl, _⟩ | h2
    · exact ⟨_, .mpoly, by simp [cpol]⟩
    · have h3 := mpoly_cost h2
      rw [ext_len2 s 12] at h3
      exact ⟨_, .mpoly, by omega⟩
  | empty _ _ _ => exact ⟨_, .coll (cs := []) rfl (by simp), by simp⟩
  | @coll s0 s t us gs ht hp _ hb hu hl _ ih =>
    have h1 := ht.1
    have h0 := hp.1
    have h2 := hb.1
    rw [← bs_len (s.extract 18 s.size), ext_len2 s 18] at h2
    have hg : ∀ (i : Nat) (g : Geom), gs[i]? = some g → ∃ c, Cost g c ∧ ∀ u, us[i]? = some u → c ≤ 6 * u.size + 1 := fun i g hg => by
      have hi : i < us.length := by rw [hl]; exact (List.getElem?_eq_some_iff.mp hg).1
      obtain ⟨c, h3, h4⟩ := ih i us[i] g (List.getElem?_eq_getElem hi) hg
      refine ⟨c, h3, fun u hu => ?_⟩
      rw [List.getElem?_eq_getElem hi] at hu
      injection hu with hu
      rw [← hu]; exact h4
    obtain ⟨cs, hc1, hc2⟩ := list_of (fun i g c => Cost g c ∧ ∀ u, us[i]? = some u → c ≤ 6 * u.size + 1) hg
    refine ⟨_, .coll hc1 fun i g c h3 h4 => (hc2 i g c h3 h4).1, ?_⟩
    have h5 := sum_bound us cs (by omega) fun i u c h3 h4 => by
      have hi : i < gs.length := by rw [← hl]; exact (List.getElem?_eq_some_iff.mp h3).1
      exact (hc2 i gs[i] c (List.getElem?_eq_getElem hi) h4).2 u h3
    have h6 := trims_lens hu
    have h7 := gsp_sum (bs t) 0 []
    have h8 := gsp_pos (bs t) 0 []
    have h9 := hu.len
    rw [bs_len, List.length_nil] at h7
    omega
end Go.Proofs.YtgmbjdoifkjdhaaGreatDoor
end
