/- EqualFold against an upper-case word. The readers of a point, a line, a multipoint. -/
import Derived.Test.YtgmbjdoifkjdhaaGreatDoorKg
import Derived.ScopeJumps
import Derived.WalkMore
import Derived.Laws.RangeString
section
namespace Go.Proofs.YtgmbjdoifkjdhaaGreatDoor
open Go.RowKit

theorem decode_ge (s : ByteArray) (h : 128 ≤ (s.get! 0).toNat) : 128 ≤ (Utf8.decode s 0).1 := by
  unfold Utf8.decode
  simp only [Nat.add_zero]
  repeat' split
  all_goals first
    | omega
    | (simp [Utf8.runeError]; done)
    | (simp only []; omega)
    | (rename_i hx; simp only [Bool.and_eq_true, decide_eq_true_eq] at hx; simp only [Nat.zero_add] at hx ⊢; omega)
theorem run_next_any (w : World) (s : ByteArray) (pos : Nat) (ty : TypeId) (h : pos < s.size) :
    (Instr.next (.pointer (some ⟨w.heap.size, 0, none⟩)) true ty).run Tryz.prog (w.iter s pos) =
      .ok (.tuple #[.bool true, .int .i64 pos, .int .i32 (Utf8.decode s pos).1]) (w.iter s (pos + (Utf8.decode s pos).2)) := by
  simp only [Instr.next, getObj, setObj, Sem.run_bind, Sem.run, World.iter_heap, Result.andThen, h, if_true, World.iter_set]
  simp [goInt]
set_option maxRecDepth 100000 in
theorem simpleFold_ascii (B : Nat) (c : Nat) (w : World) (hg : Glob B w) (hc : c < 128) :
    Calls Tryz.prog 68 #[.int .i32 c] w fun e w' => e = .returned (.int .i32 (foldN c)) ∧ w = w' := by
  have hf := hg.fold c hc
  have hb : foldN c < 65536 := by unfold foldN; repeat' split
                                  all_goals omega
  obtain ⟨d, hd⟩ : ∃ d, foldN c = d := ⟨_, rfl⟩
  rw [hd] at hf hb ⊢
  clear hd
  replace hg := hide hg
  go_enter Tryz.func68, Tryz.ntmps68
  go_wp2
  go_ret
  exact ⟨rfl, rfl⟩
def Fe (a b : UInt8) : Prop := a = b ∨ (65 ≤ a.toNat ∧ 65 ≤ b.toNat)
structure FoldT (s t : ByteArray) : Prop where
  ascii : ∀ k (h : k < t.size), t[k].toNat < 128
  back : ∀ k (h : k < s.size) (h' : k < t.size), 128 ≤ s[k].toNat → foldN (foldN t[k].toNat) = t[k].toNat ∧ foldN t[k].toNat < 128

theorem u8_or_nat (a b : Nat) (ha : a < 256) (hb : b < 256) : bits .or .u8 (a : Int) (b : Int) = ((a ||| b : Nat) : Int) := by
  have hx : a ||| b < 2 ^ 8 := Nat.or_lt_two_pow (by omega) (by omega)
  show IntKind.u8.wrap ((BitVec.ofInt 8 (a : Int) ||| BitVec.ofInt 8 (b : Int)).toNat : Int) = _
  rw [BitVec.toNat_or, BitVec.toNat_ofInt, BitVec.toNat_ofInt]
  have h1 : ((a : Int) % ((2 ^ 8 : Nat) : Int)).toNat = a := by omega
  have h2 : ((b : Int) % ((2 ^ 8 : Nat) : Int)).toNat = b := by omega
  rw [h1, h2]
  show ((a ||| b : Nat) : Int) % 256 = _
  omega
theorem or_small {a b : UInt8} (h : bits .or .u8 (a.toNat : Int) (b.toNat : Int) < 128) : a.toNat < 128 := by
  rw [u8_or_nat _ _ a.toNat_lt b.toNat_lt] at h
  have : a.toNat ≤ a.toNat ||| b.toNat := Nat.left_le_or
  omega
theorem or_big {a b : UInt8} (hb : b.toNat < 128) (h : 128 ≤ bits .or .u8 (a.toNat : Int) (b.toNat : Int)) : 128 ≤ a.toNat := by
  rw [u8_or_nat _ _ a.toNat_lt b.toNat_lt] at h
  rcases Nat.lt_or_ge a.toNat 128 with h1 | h1
  · have : a.toNat ||| b.toNat < 2 ^ 7 := Nat.or_lt_two_pow h1 hb
    omega
  · exact h1
def FeTo (s t : ByteArray) (k : Nat) : Prop := ∀ j (h : j < s.size) (h' : j < t.size), j < k → Fe s[j] t[j] ∧ s[j].toNat < 128
theorem FeTo.step {s t : ByteArray} {k : Nat} (h : FeTo s t k) (hk : k < s.size) (hk' : k < t.size) (hf : Fe s[k] t[k]) (ha : s[k].toNat < 128) : FeTo s t (k + 1) := by
  intro j h1 h2 h3
  by_cases hj : j = k
  · subst hj; exact ⟨hf, ha⟩
  · exact h j h1 h2 (by omega)
theorem fe_eq {a b : UInt8} (h : ((b.toNat : Int) == (a.toNat : Int)) = true) : Fe a b := by
  have := eq_of_beq h
  exact .inl (UInt8.toNat_inj.mp (by omega))
theorem fe_up {a b : UInt8} (h1 : 65 ≤ (b.toNat : Int)) (h2 : ((a.toNat : Int) == (b.toNat : Int) + 97 - 65) = true) : Fe a b := by
  have := eq_of_beq h2
  exact .inr ⟨by omega, by omega⟩
theorem fe_down {a b : UInt8} (h1 : 65 ≤ (a.toNat : Int)) (h2 : ((b.toNat : Int) == (a.toNat : Int) + 97 - 65) = true) : Fe a b := by
  have := eq_of_beq h2
  exact .inr ⟨by omega, by omega⟩
theorem self_ne {s t : ByteArray} {k : Nat} (hk : k < s.size) (hk' : k < t.size) (h : ((t[k].toNat : Int) == (s[k].toNat : Int)) = false) : s ≠ t := by
  rintro rfl
  exact ne_of_beq_false h rfl
/-- The first byte at k of s is no ASCII. -/
structure Jump (s t : ByteArray) (k : Nat) : Prop where
  lt : k < s.size
  lt' : k < t.size
  big : 128 ≤ s[k].toNat
set_option maxHeartbeats 2000000 in
set_option maxRecDepth 100000 in
theorem fold_any (B : Nat) (s t : ByteArray) (w : World) (hg : Glob B w) (hs : s.size ≤ 1099511627776) (ht : t.size ≤ 1000) (hf : FoldT s t) :
    Calls Tryz.prog 42 #[.string s, .string t] w fun e w' => (∃ b, e = .returned (.bool b) ∧ (s = t → b = true) ∧ (b = true → ∀ k (h : k < s.size) (h' : k < t.size), Fe s[k] t[k])) ∧ Below w.heap.size w w' := by
  replace hg := hide hg
  replace hf := hide hf
  go_enter Tryz.func42, Tryz.ntmps42
  go_wp2
  refine wp_scope_jumps 0 (fun a w' => w' = w ∧ ∃ k : Nat, Jump s t k ∧ ∃ u2 u3 u4 u6 u7 u8 u9 u10 u11 u12 u13 u14 u15 u16 u17 u18 u19 u20 u21 u22 u23 u24 u25 u26 u27 u28 u29 u30 u31 u32 u33 u34 u35 u36 u37 u38 u39 u40 u41 u42 u43 u44 u45 u46 u47 u48 u49 u50 u51 u52 u53 u54 : Value, a = ⟨#[.string s, .string t, u2, u3, u4, .int .i64 k, u6, u7, u8, u9, u10, u11, u12, u13, u14, u15, u16, u17, u18, u19, u20, u21, u22, u23, u24, u25, u26, u27, u28, u29, u30, u31, u32, u33, u34, u35, u36, u37, u38, u39, u40, u41, u42, u43, u44, u45, u46, u47, u48, u49, u50, u51, u52, u53, u54, undef, undef, undef, undef, undef, undef, undef, undef, undef, undef, undef, undef, undef, undef, undef, undef, undef, undef, undef, undef, undef, undef, undef, undef, undef, undef, undef, undef, undef, undef, undef, undef, undef, undef, undef, undef, undef, undef, undef, undef, undef, undef, undef, undef, undef, undef, undef, undef, undef, undef, undef, undef, undef, undef, undef, undef, undef, undef, undef, undef, undef, undef, undef, undef, undef, undef, undef, undef], []⟩) (fun _ _ => 0) (by rfl) ?first ?pass
  case first =>
    go_wp2
    go_loop [5] (fun i => ∃ k : Nat, k ≤ s.size ∧ k ≤ t.size ∧ i = .int .i64 k ∧ Hid (FeTo s t k)) (fun i => s.size - (intOf i).toNat)
    case atStart => exact ⟨0, Nat.zero_le _, Nat.zero_le _, rfl, hide (fun j _ _ h => absurd h (by omega))⟩
    case round =>
      obtain ⟨k, hk, hk', rfl, hh⟩ := hrel
      by_cases hlt : k < s.size
      · by_cases hlt' : k < t.size
        · go_wp2
          all_goals first
            | exact ⟨⟨k + 1, hlt, hlt', rfl, hide (hh.out.step hlt hlt' (fe_eq (by assumption)) (or_small (by assumption)))⟩, by simp [intOf]; omega⟩
            | exact ⟨⟨k + 1, hlt, hlt', rfl, hide (hh.out.step hlt hlt' (fe_up (by assumption) (by assumption)) (or_small (by assumption)))⟩, by simp [intOf]; omega⟩
            | exact ⟨⟨k + 1, hlt, hlt', rfl, hide (hh.out.step hlt hlt' (fe_down (by assumption) (by assumption)) (or_small (by assumption)))⟩, by simp [intOf]; omega⟩
            | (simp only [Exit.jump]
               go_ret
               exact ⟨⟨false, rfl, fun he => absurd he (self_ne hlt hlt' (by assumption)), fun h => by cases h⟩, Below.refl _ _⟩)
            | (go_step3
               exact ⟨rfl, rfl, k, ⟨hlt, hlt', or_big (hf.out.ascii k hlt') (by assumption)⟩, _, _, _, _, _, _, _, _, _, _, _, _, _, _, _, _, _, _, _, _, _, _, _, _, _, _, _, _, _, _, _, _, _, _, _, _, _, _, _, _, _, _, _, _, _, _, _, _, _, _, _, _, rfl⟩)
        · go_wp2
          simp only [Exit.jump]
          go_ret
          refine ⟨⟨_, rfl, fun he => by rw [he]; exact beq_self_eq_true _, fun _ j h h' => (hh.out j h h' (by omega)).1⟩, Below.refl _ _⟩
      · go_wp2
        simp only [Exit.jump]
        go_ret
        refine ⟨⟨_, rfl, fun he => by rw [he]; exact beq_self_eq_true _, fun _ j h h' => (hh.out j h h' (by omega)).1⟩, Below.refl _ _⟩
  case pass =>
    rintro a w' ⟨rfl, k, hj, u2, u3, u4, u6, u7, u8, u9, u10, u11, u12, u13, u14, u15, u16, u17, u18, u19, u20, u21, u22, u23, u24, u25, u26, u27, u28, u29, u30, u31, u32, u33, u34, u35, u36, u37, u38, u39, u40, u41, u42, u43, u44, u45, u46, u47, u48, u49, u50, u51, u52, u53, u54, rfl⟩
    have hl := hj.lt
    have hl' := hj.lt'
    have hb := hf.out.back k hl hl' hj.big
    have hta := hf.out.ascii k hl'
    have hne : s ≠ t := by
      rintro rfl
      have := hj.big
      omega
    have h0 : (t.extract k t.size).data.toList[0]? = some t[k] := by
      show (bs (t.extract k t.size))[0]? = _
      rw [bs_extract, take_all t t.size (by omega), bs_drop t k hl']; rfl
    have hrune : 128 ≤ (Utf8.decode (s.extract k s.size) 0).1 := by
      apply decode_ge
      have h1 : 0 < (s.extract k s.size).size := by rw [extract_size _ _ _ (Nat.le_refl _)]; omega
      have h2 : (s.extract k s.size).get! 0 = s[k] := by
        have h3 : (s.extract k s.size)[0] = s[k] := getElem_of_bs h1 (by rw [bs_extract, take_all s s.size (by omega), bs_drop s k hl]; rfl)
        rw [← h3]
        exact getElem!_pos (s.extract k s.size).data 0 h1
      rw [h2]; exact hj.big
    have hnx := fun ty => run_next_any w' (s.extract k s.size) 0 ty (by rw [extract_size _ _ _ (Nat.le_refl _)]; omega)
    obtain ⟨r, hr⟩ : ∃ r, r = Utf8.decode (s.extract k s.size) 0 := ⟨_, rfl⟩
    rw [← hr] at hrune
    simp only [← hr] at hnx
    clear hr
    obtain ⟨c, hc⟩ : ∃ c, c = t[k].toNat := ⟨_, rfl⟩
    rw [← hc] at hb hta
    have hcall : ∀ w, Calls Tryz.prog 67 #[.string (t.extract k t.size)] w fun e w' => e = .returned (.tuple #[.int .i32 c, .int .i64 1]) ∧ w' = w := fun w => by
      rw [hc]; exact Tryz.utf8_DecodeRuneInString_ascii (t.extract k t.size) t[k] w h0 (by omega)
    clear h0 hc
    obtain ⟨hb1, hb2⟩ := hb
    obtain ⟨d, hd⟩ : ∃ d, foldN c = d := ⟨_, rfl⟩
    rw [hd] at hb1 hb2
    replace hcall := hide hcall
    replace hb1 := hide hb1
    replace hd := hide hd
    replace hj := hide hj
    have hGi : Hid (∀ p, Glob B (w'.iter (s.extract k s.size) p)) := hide fun p => hg.out.up (below_alloc w' _)
    have hs1 : Hid (∀ p, Calls Tryz.prog 68 #[.int .i32 c] (w'.iter (s.extract k s.size) p) fun e w2 => e = .returned (.int .i32 d) ∧ w'.iter (s.extract k s.size) p = w2) := hide fun p => by
      have := simpleFold_ascii B c _ (hGi.out p) hta
      rw [hd.out] at this; exact this
    have hs2 : Hid (∀ p, Calls Tryz.prog 68 #[.int .i32 d] (w'.iter (s.extract k s.size) p) fun e w2 => e = .returned (.int .i32 c) ∧ w'.iter (s.extract k s.size) p = w2) := hide fun p => by
      have := simpleFold_ascii B d _ (hGi.out p) hb2
      rw [hb1.out] at this; exact this
    go_wp2
    refine wp_loop_rounds 1 ?_
    rw [rounds_succ]
    go_wp2_with (first
      | (go_at_call 67; (with_reducible refine (hcall.out _).mono ?_); rintro e w2 ⟨rfl, rfl⟩)
      | (go_at_call 68; (with_reducible refine (hs1.out _).mono ?_); rintro e w2 ⟨rfl, rfl⟩))
    by_cases hdc : d = c
    · subst hdc
      refine wp_loop_rounds 1 ?_
      rw [rounds_succ]
      go_wp2
      simp only [Exit.jump]
      go_ret
      exact ⟨⟨false, rfl, fun he => absurd he hne, fun h => by cases h⟩, below_alloc w' _⟩
    · refine wp_loop_rounds 2 ?_
      rw [rounds_succ]
      go_wp2_with (first
        | (go_at_call 68; (with_reducible refine (hs2.out _).mono ?_); rintro e w2 ⟨rfl, rfl⟩))
      · rw [rounds_succ]
        go_wp2
        simp only [Exit.jump]
        go_ret
        exact ⟨⟨false, rfl, fun he => absurd he hne, fun h => by cases h⟩, below_alloc w' _⟩
      · simp only [Exit.jump]
        go_ret
        exact ⟨⟨false, rfl, fun he => absurd he hne, fun h => by cases h⟩, below_alloc w' _⟩
end Go.Proofs.YtgmbjdoifkjdhaaGreatDoor
end
section
namespace Go.Proofs.YtgmbjdoifkjdhaaGreatDoor
open Go.RowKit

set_option maxHeartbeats 1000000 in
set_option maxRecDepth 100000 in
theorem rdPoint {NT : List UInt8 → Nat → Prop} (N : NumIO NT) (B : Nat) (s0 : ByteArray) (w : World) (hg : Glob B w) (hs : s0.size ≤ 1099511627776) (h5 : 5 ≤ s0.size) :
    Calls Tryz.prog 23 #[.string s0] w fun e w' => (∃ p, (e = .returned (.tuple #[.agg #[.float .f64 p.1, .float .f64 p.2], .nilIface]) ∧ MemR NT (bs (s0.extract 5 s0.size)) p) ∨
      (∃ t q, e = .returned (.tuple #[.agg #[.float .f64 p.1, .float .f64 p.2], .iface t q]) ∧ MemBad NT (bs (s0.extract 5 s0.size)))) ∧ Below w.heap.size w w' := by
  have hsf := store_float
  have hgs := hg.size
  have hse : (s0.extract 5 s0.size).size ≤ s0.size := by rw [extract_size _ _ _ (Nat.le_refl _)]; omega
  replace hg := hide hg
  go_enter Tryz.func23, Tryz.ntmps23
  go_wp2_with (first
    | (go_at_call 40; (with_reducible refine (brackets_any B (s0.extract 5 s0.size) _ (hg.out.up (below_alloc w _)) (by omega)).mono ?_); rintro e w1 ⟨⟨s, ⟨rfl, hbo⟩ | ⟨ty, q, rfl, hbb⟩⟩, hbel⟩; all_goals (have hb1 := hide ((Blk.new w 47 #[.float .f64 0, .float .f64 0]).below hbel (by simp)); obtain ⟨c0, c1, f0, f1⟩ := pt_cell hb1.out; (try have hsl := hbo.1); have hb := hide ((below_alloc w (.cells #[.float .f64 0, .float .f64 0] 47)).trans (hbel.mono (by simp))); clear hbel))
    | (go_at_call 41; (with_reducible refine (point_any N B s w1 (hg.out.up hb.out) (by omega)).mono ?_); rintro e w2 ⟨⟨⟨x, y⟩, ⟨rfl, hok⟩ | ⟨t, q, rfl, hbad⟩⟩, hbel⟩; all_goals (have hb2 := hide (hb1.out.below hbel hb1.out.lt); obtain ⟨c0, c1, f0, f1⟩ := pt_cell hb2.out; have hlt2 := hb2.out.lt; have hbb2 := hide (hb.out.trans (hbel.mono hb.out.size)); clear hbel)))
  · (try simp only [Exit.inBlock, Exit.then])
    refine bodyPost_ret (results_pt rfl _ _ w.heap.size _ _ rfl ((hb2.out.two _ _).alloc _)) rfl ?_
    exact ⟨⟨(x, y), .inl ⟨rfl, s, by rw [tx_bs]; exact hbo, hok⟩⟩, (((hbb2.out.setCell (Nat.le_refl _) _).setCell (Nat.le_refl _) _)).alloc (by rw [size_set, size_set]; exact hbb2.out.size) _⟩
  · (try simp only [Exit.inBlock, Exit.then])
    refine bodyPost_ret (results_pt rfl _ _ w.heap.size _ _ rfl ((hb2.out.two _ _).alloc _)) rfl ?_
    exact ⟨⟨(0, 0), .inr ⟨t, q, rfl, .inr ⟨s, by rw [tx_bs]; exact hbo, hbad⟩⟩⟩, (((hbb2.out.setCell (Nat.le_refl _) _).setCell (Nat.le_refl _) _)).alloc (by rw [size_set, size_set]; exact hbb2.out.size) _⟩
  · (try simp only [Exit.inBlock, Exit.then])
    refine bodyPost_ret (results_pt rfl _ _ w.heap.size _ _ rfl (hb1.out.two _ _)) rfl ?_
    exact ⟨⟨(0, 0), .inr ⟨ty, q, rfl, .inl (by rw [tx_bs]; exact hbb)⟩⟩, (hb.out.setCell (Nat.le_refl _) _).setCell (Nat.le_refl _) _⟩
end Go.Proofs.YtgmbjdoifkjdhaaGreatDoor
end
