/- Walks of the small loops over text: commas, trimSpace, inClass, overClass, zzIndex, cut. Walks of the small loops over text: inClass, overClass, zzIndex, cut, matchParens. splitOnComma, with the closure by its contract. -/
import Derived.Test.YtgmbjdoifkjdhaaGreatDoorKb
import Derived.OwnWalk
section
namespace Go.Proofs.YtgmbjdoifkjdhaaGreatDoor
open Go.RowKit
theorem ret_int {k : IntKind} {a b : Int} (h : a = b) : Ending.returned (.int k a) = .returned (.int k b) := by rw [h]
theorem ret_str {a b : ByteArray} (h : a = b) : Ending.returned (.string a) = .returned (.string b) := by rw [h]
/-- The bytes of a string. -/
def bs (s : ByteArray) : List UInt8 := s.data.toList
/-- The string of these bytes. -/
def tx (l : List UInt8) : ByteArray := ⟨l.toArray⟩
theorem bs_tx (l : List UInt8) : bs (tx l) = l := by simp [bs, tx]
theorem tx_bs (s : ByteArray) : tx (bs s) = s := by simp [bs, tx]
theorem bs_inj {s t : ByteArray} (h : bs s = bs t) : s = t := by rw [← tx_bs s, ← tx_bs t, h]
theorem bs_len (s : ByteArray) : (bs s).length = s.size := Array.length_toList
theorem tx_size (l : List UInt8) : (tx l).size = l.length := by rw [← bs_len, bs_tx]
theorem bs_at (s : ByteArray) (k : Nat) (h : k < s.size) : (bs s)[k]? = some s[k] := by
  have h2 : k < (bs s).length := by rw [bs_len]; exact h
  rw [List.getElem?_eq_getElem h2]; rfl
theorem bs_drop (s : ByteArray) (k : Nat) (h : k < s.size) : (bs s).drop k = s[k] :: (bs s).drop (k + 1) := by
  have h2 : k < (bs s).length := by rw [bs_len]; exact h
  rw [List.drop_eq_getElem_cons h2]; rfl
theorem bs_drop_nil (s : ByteArray) (k : Nat) (h : ¬ k < s.size) : (bs s).drop k = [] :=
  List.drop_eq_nil_of_le (by rw [bs_len]; omega)
theorem bs_extract (s : ByteArray) (a b : Nat) : bs (s.extract a b) = ((bs s).take b).drop a := by
  unfold bs
  rw [ByteArray.data_extract, Array.toList_extract, List.extract_eq_take_drop]
  rw [List.drop_take]
theorem bs_append (s t : ByteArray) : bs (s ++ t) = bs s ++ bs t := by
  unfold bs
  rw [ByteArray.data_append, Array.toList_append]

/-- How many commas. -/
def commasN : List UInt8 → Nat
  | [] => 0
  | c :: t => (if c = 44 then 1 else 0) + commasN t

theorem commasN_le (l : List UInt8) : commasN l ≤ l.length := by
  induction l with
  | nil => simp [commasN]
  | cons c t ih => simp only [commasN, List.length_cons]; split <;> omega

theorem u8_eq {c : UInt8} {n : Nat} (hn : n < 256) (h : ((c.toNat : Int) == (n : Int)) = true) : c = UInt8.ofNat n := by
  have h2 := eq_of_beq h
  have h3 : c.toNat = n := by omega
  apply UInt8.toNat_inj.mp
  rw [h3, UInt8.toNat_ofNat']; omega
theorem u8_ne {c : UInt8} {n : Nat} (hn : n < 256) (h : ((c.toNat : Int) == (n : Int)) = false) : c ≠ UInt8.ofNat n := by
  intro hc
  have h2 := ne_of_beq_false h
  apply h2
  rw [hc, UInt8.toNat_ofNat']; omega

set_option maxHeartbeats 400000 in
theorem commas_any (s : ByteArray) (w : World) (hs : s.size ≤ 1099511627776) :
    Calls Tryz.prog 43 #[.string s] w fun e w' => e = .returned (.int .i64 (commasN (bs s))) ∧ w = w' := by
  have hle := commasN_le (bs s)
  rw [bs_len] at hle
  go_enter Tryz.func43, Tryz.ntmps43
  go_wp2
  go_loop [3, 4] (fun n i => ∃ k m : Nat, k ≤ s.size ∧ i = .int .i64 k ∧ n = .int .i64 m ∧ m ≤ k ∧ Hid (m + commasN ((bs s).drop k) = commasN (bs s))) (fun _ i => s.size - (intOf i).toNat)
  case atStart => exact ⟨0, 0, Nat.zero_le _, rfl, rfl, Nat.le_refl _, hide (by simp)⟩
  case round =>
    obtain ⟨k, m, hk, rfl, rfl, hm, hh⟩ := hrel
    by_cases hlt : k < s.size
    · have hd := hide (bs_drop s k hlt)
      go_wp2
      · rename_i hc
        refine ⟨⟨k + 1, m + 1, hlt, rfl, rfl, by omega, hide ?_⟩, by simp [intOf]; omega⟩
        have := hh.out
        rw [hd.out] at this
        simp only [commasN, u8_eq (by decide) hc] at this
        simp at this; omega
      · rename_i hc
        refine ⟨⟨k + 1, m, hlt, rfl, rfl, by omega, hide ?_⟩, by simp [intOf]; omega⟩
        have := hh.out
        rw [hd.out] at this
        have h2 := u8_ne (by decide) hc
        simp only [commasN] at this
        rw [if_neg (show ¬ s[k] = 44 from h2)] at this
        omega
    · go_wp2
      have hm2 : m = commasN (bs s) := by
        have := hh.out
        rw [bs_drop_nil s k hlt] at this; simpa [commasN] using this
      subst hm2
      go_ret
      exact ⟨rfl, rfl⟩

def isSp (c : UInt8) : Bool := c == 32 || c == 9 || c == 10
theorem isSp_iff (c : UInt8) : isSp c = true ↔ ((c.toNat : Int) = 32 ∨ (c.toNat : Int) = 9 ∨ (c.toNat : Int) = 10) := by
  unfold isSp
  simp only [Bool.or_eq_true, beq_iff_eq, ← UInt8.toNat_inj]
  simp; omega
/-- At least two bytes, no space at either end. -/
structure Tidy (s : ByteArray) : Prop where
  two : 2 ≤ s.size
  head : ∀ h : 0 < s.size, isSp (s[0]'h) = false
  last : ∀ h : s.size - 1 < s.size, isSp (s[s.size - 1]'h) = false
def TrimR (s t : ByteArray) : Prop := t.size ≤ s.size ∧ t.size ≠ 1 ∧ (Tidy s → t = s)
theorem tidy_up {s : ByteArray} {k : Nat} {p : Prop} (hlt : k < s.size) (h : ((s[k].toNat : Int) = 32 ∨ (s[k].toNat : Int) = 9 ∨ (s[k].toNat : Int) = 10)) (hz : Hid (Tidy s → k = 0)) : Hid (Tidy s → p) := by
  apply hide
  intro ht
  have h0 := hz.out ht
  subst h0
  have := ht.head hlt
  rw [(isSp_iff _).mpr h] at this; cases this
theorem tidy_down {s : ByteArray} {k : Nat} {p : Prop} (hlt : k < s.size) (h : ((s[k].toNat : Int) = 32 ∨ (s[k].toNat : Int) = 9 ∨ (s[k].toNat : Int) = 10)) (hz : Hid (Tidy s → k = s.size - 1)) : Hid (Tidy s → p) := by
  apply hide
  intro ht
  have h0 := hz.out ht
  subst h0
  have := ht.last hlt
  rw [(isSp_iff _).mpr h] at this; cases this

theorem sp_last {n : Int} (h1 : ¬ n = 32) (h2 : ¬ n = 9) (h3 : ((n != 32) = false ∨ (n != 9) = false) ∨ (n != 10) = false) : n = 10 := by
  simp only [bne_eq_false_iff_eq] at h3
  omega
theorem extract_all (s : ByteArray) : s.extract 0 s.size = s := by
  apply bs_inj; rw [bs_extract, List.drop_zero, List.take_of_length_le (by rw [bs_len]; exact Nat.le_refl _)]
theorem extract_size (s : ByteArray) (a b : Nat) (hb : b ≤ s.size) : (s.extract a b).size = b - a := by
  rw [← bs_len, bs_extract, List.length_drop, List.length_take, bs_len]; omega
theorem trim_part {s : ByteArray} {k j : Nat} (hlj : j < s.size) (hkj : k < j) (hz : Hid (Tidy s → k = 0)) (hy : Hid (Tidy s → j = s.size - 1)) : TrimR s (s.extract k (j + 1)) := by
  refine ⟨by rw [extract_size _ _ _ hlj]; omega, by rw [extract_size _ _ _ hlj]; omega, fun ht => ?_⟩
  rw [hz.out ht, show j + 1 = s.size by rw [hy.out ht]; omega, extract_all]
theorem trim_none {s : ByteArray} {k j : Nat} (hkj : j ≤ k) (hz : Hid (Tidy s → k = 0)) (hy : Hid (Tidy s → j = s.size - 1)) : TrimR s ⟨#[]⟩ := by
  refine ⟨Nat.zero_le _, by decide, fun ht => ?_⟩
  have := hz.out ht
  have := hy.out ht
  have := ht.two
  omega

set_option maxHeartbeats 1600000 in
theorem trim_any (s : ByteArray) (w : World) (hs : s.size ≤ 1099511627776) :
    Calls Tryz.prog 20 #[.string s] w fun e w' => ∃ t, e = .returned (.string t) ∧ TrimR s t ∧ w = w' := by
  go_enter Tryz.func20, Tryz.ntmps20
  by_cases h0 : s.size = 0
  · go_wp2
    go_ret
    exact ⟨s, rfl, ⟨Nat.le_refl _, by omega, fun _ => rfl⟩, rfl⟩
  have h1 : 0 < s.size := by omega
  go_wp2
  go_loop [3] (fun i => ∃ k : Nat, k ≤ s.size ∧ i = .int .i64 k ∧ Hid (Tidy s → k = 0)) (fun i => s.size - (intOf i).toNat)
  case atStart => exact ⟨0, Nat.zero_le _, rfl, hide fun _ => rfl⟩
  case round =>
    obtain ⟨k, hk, rfl, hz⟩ := hrel
    by_cases hlt : k < s.size
    · go_wp2
      · rename_i h _
        exact ⟨⟨k + 1, hlt, rfl, tidy_up hlt (.inl h) hz⟩, by simp [intOf]; omega⟩
      · rename_i h _
        exact ⟨⟨k + 1, hlt, rfl, tidy_up hlt (.inr (.inl h)) hz⟩, by simp [intOf]; omega⟩
      · go_loop [4] (fun i => ∃ m : Nat, m ≤ s.size ∧ i = .int .i64 ((m : Int) - 1) ∧ Hid (Tidy s → m - 1 = s.size - 1)) (fun i => (intOf i + 1).toNat)
        case atStart => exact ⟨s.size, Nat.le_refl _, rfl, hide fun _ => rfl⟩
        case round =>
          obtain ⟨m, hm, rfl, hy⟩ := hrel
          by_cases hlm : 0 < m
          · obtain ⟨j, rfl⟩ : ∃ j, m = j + 1 := ⟨m - 1, by omega⟩
            rw [show ((j + 1 : Nat) : Int) - 1 = (j : Int) by omega]
            have hy2 : Hid (Tidy s → j = s.size - 1) := hy
            have hlj : j < s.size := hm
            go_wp2
            all_goals first
              | (go_ret; first | exact ⟨_, rfl, trim_none (by assumption) hz hy2, rfl⟩ | exact ⟨_, rfl, trim_part hlj (by omega) hz hy2, rfl⟩)
              | (refine ⟨⟨j, Nat.le_of_lt hlj, rfl, tidy_down hlj ?_ hy2⟩, by simp [intOf] <;> omega⟩
                 first | (left; assumption) | (right; left; assumption) | exact .inr (.inr (sp_last (by assumption) (by assumption) (by assumption))))
          · obtain rfl : m = 0 := by omega
            go_wp2
            all_goals first
              | (go_ret; exact ⟨_, rfl, trim_none (Nat.zero_le _) hz (hide fun ht => hy.out ht), rfl⟩)
      · rename_i h1 h2 h3 _
        have h4 : (s[k].toNat : Int) = 10 := sp_last h1 h2 h3
        exact ⟨⟨k + 1, hlt, rfl, tidy_up hlt (.inr (.inr h4)) hz⟩, by simp [intOf]; omega⟩
    · go_wp2
      go_loop [4] (fun i => ∃ m : Nat, m ≤ s.size ∧ i = .int .i64 ((m : Int) - 1) ∧ Hid (Tidy s → m - 1 = s.size - 1)) (fun i => (intOf i + 1).toNat)
      case atStart => exact ⟨s.size, Nat.le_refl _, rfl, hide fun _ => rfl⟩
      case round =>
        obtain ⟨m, hm, rfl, hy⟩ := hrel
        by_cases hlm : 0 < m
        · obtain ⟨j, rfl⟩ : ∃ j, m = j + 1 := ⟨m - 1, by omega⟩
          rw [show ((j + 1 : Nat) : Int) - 1 = (j : Int) by omega]
          have hy2 : Hid (Tidy s → j = s.size - 1) := hy
          have hlj : j < s.size := hm
          go_wp2
          all_goals first
            | (go_ret; first | exact ⟨_, rfl, trim_none (by assumption) hz hy2, rfl⟩ | exact ⟨_, rfl, trim_part hlj (by omega) hz hy2, rfl⟩)
            | (refine ⟨⟨j, Nat.le_of_lt hlj, rfl, tidy_down hlj ?_ hy2⟩, by simp [intOf] <;> omega⟩
               first | (left; assumption) | (right; left; assumption) | exact .inr (.inr (sp_last (by assumption) (by assumption) (by assumption))))
        · obtain rfl : m = 0 := by omega
          go_wp2
          all_goals first
            | (go_ret; exact ⟨_, rfl, trim_none (Nat.zero_le _) hz (hide fun ht => hy.out ht), rfl⟩)

end Go.Proofs.YtgmbjdoifkjdhaaGreatDoor
end
section
namespace Go.Proofs.YtgmbjdoifkjdhaaGreatDoor
open Go.RowKit

theorem toList_loop (s : ByteArray) (i : Nat) (r : List UInt8) : ByteArray.toList.loop s i r = r.reverse ++ (bs s).drop i := by
  fun_induction ByteArray.toList.loop s i r with
  | case1 i r h ih =>
    rw [ih, bs_drop s i h, List.reverse_cons, List.append_assoc, List.singleton_append]
    have : s.get! i = s[i] := getElem!_pos s.data i h
    rw [this]
  | case2 i r h => rw [bs_drop_nil s i h, List.append_nil]
theorem toList_bs (s : ByteArray) : s.toList = bs s := by
  unfold ByteArray.toList; rw [toList_loop]; rfl

def cls (c : UInt8) : Bool := ((c.toNat : Int) == 32 || (c.toNat : Int) == 9 || (c.toNat : Int) == 10 || (c.toNat : Int) == 12 || (c.toNat : Int) == 13 || (c.toNat : Int) == 124)
theorem inClass_any (c : UInt8) (w : World) :
    Calls Tryz.prog 111 #[.int .u8 (c.toNat : Int)] w fun e w' => e = .returned (.bool (cls c)) ∧ w = w' := by
  go_enter Tryz.func111, Tryz.ntmps111
  go_wp2
  all_goals (
    go_ret
    refine ⟨?_, rfl⟩
    unfold cls
    first
      | rfl
      | (simp only [*, beq_self_eq_true, Bool.or_true, Bool.true_or]; rfl))

theorem one_eq (s : ByteArray) (k : Nat) (h : k < s.size) : (s.extract k (k + 1)).toList = [s[k]] := by
  rw [toList_bs, bs_extract]
  have h2 : k < (bs s).length := by rw [bs_len]; exact h
  rw [List.drop_take, List.drop_eq_getElem_cons h2, show k + 1 - k = 1 by omega]
  rfl
theorem take_succ' (s : ByteArray) (k : Nat) (h : k < s.size) : (bs s).take (k + 1) = (bs s).take k ++ [s[k]] := by
  have h2 : k < (bs s).length := by rw [bs_len]; exact h
  rw [List.take_succ_eq_append_getElem h2]; rfl
theorem take_all (s : ByteArray) (k : Nat) (h : ¬ k < s.size) : (bs s).take k = bs s := List.take_of_length_le (by rw [bs_len]; omega)

/-- The first space is at k. -/
structure Space (s : ByteArray) (k : Nat) : Prop where
  lt : k < s.size
  at_ : s[k] = 32
  no : (32 : UInt8) ∉ (bs s).take k
theorem zz_any (s : ByteArray) (w : World) (hs : s.size ≤ 1099511627776) :
    Calls Tryz.prog 75 #[.string s, .string ⟨#[32]⟩] w fun e w' => ((e = .returned (.int .i64 (-1)) ∧ (32 : UInt8) ∉ bs s) ∨ ∃ k : Nat, e = .returned (.int .i64 k) ∧ Space s k) ∧ w = w' := by
  go_enter Tryz.func75, Tryz.ntmps75
  go_wp2
  go_loop [5] (fun i => ∃ k : Nat, k ≤ s.size ∧ i = .int .i64 k ∧ Hid ((32 : UInt8) ∉ (bs s).take k)) (fun i => s.size - (intOf i).toNat)
  case atStart => exact ⟨0, Nat.zero_le _, rfl, hide (by simp)⟩
  case round =>
    obtain ⟨k, hk, rfl, hz⟩ := hrel
    by_cases hlt : k < s.size
    · have h1 := one_eq s k hlt
      go_wp2
      · rename_i h _
        go_ret
        refine ⟨.inr ⟨k, rfl, hlt, ?_, hz.out⟩, rfl⟩
        simpa using eq_of_beq h
      · rename_i h
        refine ⟨⟨k + 1, hlt, rfl, hide ?_⟩, by simp [intOf]; omega⟩
        rw [take_succ' s k hlt]
        have h3 : s[k] ≠ 32 := by simpa using ne_of_beq_false h
        intro hm
        rcases List.mem_append.mp hm with h4 | h4
        · exact hz.out h4
        · exact h3 (((List.mem_singleton.mp h4).symm))
    · go_wp2
      go_ret
      refine ⟨.inl ⟨rfl, ?_⟩, rfl⟩
      have := hz.out
      rwa [take_all s k hlt] at this

theorem Space.split {s : ByteArray} {k : Nat} (h : Space s k) : bs s = bs (s.extract 0 k) ++ 32 :: bs (s.extract (k + 1) s.size) ∧ (32 : UInt8) ∉ bs (s.extract 0 k) := by
  have h1 := h.lt
  rw [bs_extract, bs_extract, List.drop_zero, take_all s s.size (by omega)]
  refine ⟨?_, h.no⟩
  have h2 := bs_drop s k h.lt
  rw [h.at_] at h2
  rw [← h2, List.take_append_drop]

theorem below_refl_size (w : World) : Below w.heap.size w w := Below.refl _ _
theorem cut_any (s : ByteArray) (w : World) (hs : s.size ≤ 1099511627776) :
    Calls Tryz.prog 65 #[.string s, .string ⟨#[32]⟩] w fun e w' => ((e = .returned (.tuple #[.string s, .string ⟨#[]⟩, .bool false]) ∧ (32 : UInt8) ∉ bs s) ∨ ∃ a b, e = .returned (.tuple #[.string a, .string b, .bool true]) ∧ bs s = bs a ++ 32 :: bs b ∧ (32 : UInt8) ∉ bs a) ∧ Below w.heap.size w w' := by
  go_enter Tryz.func65, Tryz.ntmps65
  go_wp2_with (first | (go_at_call 75; (with_reducible refine (zz_any s _ hs).mono ?_); rintro e w' ⟨h, rfl⟩; rcases h with ⟨rfl, h⟩ | ⟨k, rfl, h1⟩))
  · go_ret3
    exact ⟨.inl ⟨rfl, h⟩, Below.refl _ _⟩
  · have h2 := h1.lt
    have h3 := h1.split
    go_quiet (fail)
    go_wp2
    go_ret3
    exact ⟨.inr ⟨_, _, rfl, h3.1, h3.2⟩, below_drewN (Below.refl _ _) _⟩

/-- Behind the bytes of the class. -/
def sk : List UInt8 → List UInt8
  | [] => []
  | c :: t => if cls c then sk t else c :: t
theorem sk_le (l : List UInt8) : (sk l).length ≤ l.length := by
  induction l with
  | nil => simp [sk]
  | cons c t ih => simp only [sk]; split <;> simp <;> omega
theorem sk_suffix (l : List UInt8) : ∃ n, sk l = l.drop n := by
  induction l with
  | nil => exact ⟨0, rfl⟩
  | cons c t ih =>
    simp only [sk]
    split
    · obtain ⟨n, h⟩ := ih; exact ⟨n + 1, by rw [h]; rfl⟩
    · exact ⟨0, rfl⟩

theorem over_any (s : ByteArray) (i : Nat) (w : World) (hs : s.size ≤ 1099511627776) (hi : i ≤ s.size) :
    Calls Tryz.prog 90 #[.string s, .int .i64 i] w fun e w' => ∃ q : Nat, e = .returned (.int .i64 q) ∧ i ≤ q ∧ q ≤ s.size ∧ Hid (sk ((bs s).drop i) = (bs s).drop q) ∧ w = w' := by
  go_enter Tryz.func90, Tryz.ntmps90
  go_wp2
  go_loop [1] (fun v => ∃ k : Nat, k ≤ s.size ∧ v = .int .i64 k ∧ i ≤ k ∧ Hid (sk ((bs s).drop k) = sk ((bs s).drop i))) (fun v => s.size - (intOf v).toNat)
  case atStart => exact ⟨i, hi, rfl, Nat.le_refl _, hide rfl⟩
  case round =>
    obtain ⟨k, hk, rfl, hik, hz⟩ := hrel
    by_cases hlt : k < s.size
    · have hd := hide (bs_drop s k hlt)
      go_wp2_with (first | (go_at_call 111; (with_reducible refine (inClass_any _ _).mono ?_); rintro e w' ⟨rfl, rfl⟩))
      · rename_i h
        refine ⟨⟨k + 1, hlt, rfl, by omega, hide ?_⟩, by simp [intOf]; omega⟩
        have := hz.out
        rw [hd.out] at this
        simpa only [sk, h, if_true] using this
      · rename_i h
        go_ret
        refine ⟨k, rfl, hik, hk, hide ?_, rfl⟩
        have := hz.out
        rw [← this, hd.out]
        simp only [sk, h, Bool.false_eq_true, if_false]
    · go_wp2
      go_ret
      refine ⟨k, rfl, hik, hk, hide ?_, rfl⟩
      have := hz.out
      rw [← this, bs_drop_nil s k hlt]
      simp [sk]

theorem over_int (s : ByteArray) (v : Int) (w : World) (hs : s.size ≤ 1099511627776) (h0 : 0 ≤ v) (h1 : v ≤ s.size) :
    Calls Tryz.prog 90 #[.string s, .int .i64 v] w fun e w' => ∃ q : Nat, e = .returned (.int .i64 q) ∧ v ≤ q ∧ q ≤ s.size ∧ Hid (sk ((bs s).drop v.toNat) = (bs s).drop q) ∧ w = w' := by
  obtain ⟨i, rfl⟩ := Int.eq_ofNat_of_zero_le h0
  refine (over_any s i w hs (by omega)).mono ?_
  rintro e w' ⟨q, rfl, h2, h3, h4, rfl⟩
  exact ⟨q, rfl, by omega, h3, h4, rfl⟩
/-- What follows the match that starts at the head of l: behind its closing bracket (or the second one), at its opening bracket, behind its opening bracket (or the second one). -/
def mp (dbl : Bool) (l : List UInt8) : Option (List UInt8 × List UInt8 × List UInt8) :=
  match l with
  | [] => none
  | c :: l1 =>
    if ((c.toNat : Int) != 41) = true then none else
    match (if dbl then (match sk l1 with | [] => none | c :: l2 => if ((c.toNat : Int) != 41) = false then some l2 else none) else some l1) with
    | none => none
    | some l3 =>
      match sk l3 with
      | [] => none
      | c :: l4 =>
        if ((c.toNat : Int) != 44) = true then none else
        match sk l4 with
        | [] => none
        | c :: l6 =>
          if ((c.toNat : Int) != 40) = true then none else
          match (if dbl then (match sk l6 with | [] => none | c :: l7 => if ((c.toNat : Int) != 40) = false then some l7 else none) else some l6) with
          | none => none
          | some l8 => some (l3, c :: l6, l8)

theorem next (s : ByteArray) (q : Nat) : (¬ q < s.size ∧ Hid ((bs s).drop q = [])) ∨ (∃ h : q < s.size, ¬ s.size ≤ q ∧ Hid ((bs s).drop q = s[q] :: (bs s).drop (q + 1))) := by
  by_cases h : q < s.size
  · exact .inr ⟨h, by omega, hide (bs_drop s q h)⟩
  · exact .inl ⟨h, hide (bs_drop_nil s q h)⟩
theorem results_tmp5 {fn : Func} {t u v x y : Tmp} (h : fn.results = #[.tmp t, .tmp u, .tmp v, .tmp x, .tmp y]) (tmps : Array Value) (P : Program) (w : World) :
    (results fn tmps).run P w = .ok (.tuple #[tmps.getD t undef, tmps.getD u undef, tmps.getD v undef, tmps.getD x undef, tmps.getD y undef]) w := by
  simp [results, h]
def MpR (s : ByteArray) (i : Nat) (dbl : Bool) (v : Value) : Prop :=
  (v = .tuple #[.int .i64 0, .int .i64 0, .int .i64 0, .int .i64 0, .bool false] ∧ mp dbl ((bs s).drop i) = none) ∨
  ∃ f t n : Int, v = .tuple #[.int .i64 i, .int .i64 f, .int .i64 t, .int .i64 n, .bool true] ∧ i < f ∧ f ≤ t ∧ t < n ∧ n ≤ s.size ∧ mp dbl ((bs s).drop i) = some ((bs s).drop f.toNat, (bs s).drop t.toNat, (bs s).drop n.toNat)

set_option maxHeartbeats 4000000 in
theorem mp_any (s : ByteArray) (i : Nat) (dbl : Bool) (w : World) (hs : s.size ≤ 1099511627776) (hi : i < s.size) :
    Calls Tryz.prog 81 #[.string s, .int .i64 i, .bool dbl] w fun e w' => (∃ v, e = .returned v ∧ MpR s i dbl v) ∧ w = w' := by
  have hd := hide (bs_drop s i hi)
  cases dbl
  · go_enter Tryz.func81, Tryz.ntmps81
    go_wp2_with (first | (go_at_call 90; (with_reducible refine (over_int s _ _ hs (by omega) (by omega)).mono ?_); rintro e w' ⟨q, rfl, hq1, hq2, hq3, rfl⟩; rcases next s q with ⟨hn1, hn2⟩ | ⟨hn1, hn3, hn2⟩))
    all_goals ((try simp only [Exit.inBlock, Exit.then]); refine bodyPost_ret (results_tmp5 rfl _ _ _) rfl ?_; refine ⟨⟨_, rfl, ?_⟩, rfl⟩; unfold Hid at *)
    all_goals first
      | (refine .inl ⟨rfl, ?_⟩; simp_all [mp]; done)
      | (refine .inl ⟨rfl, ?_⟩; simp_all [mp] <;> (try intro _) <;> omega)
      | (refine .inr ⟨_, _, _, rfl, by omega, by omega, by omega, by omega, ?_⟩; simp_all [mp]; done)
  · go_enter Tryz.func81, Tryz.ntmps81
    go_wp2_with (first | (go_at_call 90; (with_reducible refine (over_int s _ _ hs (by omega) (by omega)).mono ?_); rintro e w' ⟨q, rfl, hq1, hq2, hq3, rfl⟩; rcases next s q with ⟨hn1, hn2⟩ | ⟨hn1, hn3, hn2⟩))
    all_goals ((try simp only [Exit.inBlock, Exit.then]); refine bodyPost_ret (results_tmp5 rfl _ _ _) rfl ?_; refine ⟨⟨_, rfl, ?_⟩, rfl⟩; unfold Hid at *)
    all_goals first
      | (refine .inl ⟨rfl, ?_⟩; simp_all [mp]; done)
      | (refine .inl ⟨rfl, ?_⟩; simp_all [mp] <;> (try intro _) <;> omega)
      | (refine .inr ⟨_, _, _, rfl, by omega, by omega, by omega, by omega, ?_⟩; simp_all [mp]; done)
end Go.Proofs.YtgmbjdoifkjdhaaGreatDoor
end
section
namespace Go.Proofs.YtgmbjdoifkjdhaaGreatDoor
open Go.RowKit

/-- The bytes from a up to b. -/
def ex (s : ByteArray) (a b : Nat) : List UInt8 := ((bs s).take b).drop a
theorem ex_eq (s : ByteArray) (a b : Nat) : bs (s.extract a b) = ex s a b := bs_extract s a b
theorem ex_succ (s : ByteArray) (a k : Nat) (ha : a ≤ k) (hk : k < s.size) : ex s a (k + 1) = ex s a k ++ [s[k]] := by
  unfold ex
  rw [take_succ' s k hk, List.drop_append_of_le_length (by rw [List.length_take, bs_len]; omega)]
theorem ex_self (s : ByteArray) (a : Nat) : ex s a a = [] := by
  unfold ex; exact List.drop_eq_nil_of_le (by rw [List.length_take]; omega)
theorem ex_cat (s : ByteArray) (a m k : Nat) (h1 : a ≤ m) (h2 : m ≤ k) : ex s a m ++ ex s m k = ex s a k := by
  have h3 : ex s a m = ((ex s a k).take (m - a)) := by
    unfold ex; rw [← List.drop_take, List.take_take, show min m k = m by omega]
  have h4 : ex s m k = (ex s a k).drop (m - a) := by
    unfold ex; rw [List.drop_drop, show a + (m - a) = m by omega]
  rw [h3, h4, List.take_append_drop]
theorem ex_end (s : ByteArray) (a : Nat) : ex s a s.size = (bs s).drop a := by unfold ex; rw [take_all s s.size (by omega)]
theorem ex_len (s : ByteArray) (a b : Nat) (hb : b ≤ s.size) : (ex s a b).length = b - a := by
  unfold ex; rw [List.length_drop, List.length_take, bs_len]; omega

/-- The parts between commas (with the spaces on either side of them). -/
def cgo : List UInt8 → List UInt8 → List UInt8 → Bool → List (List UInt8)
  | [], cur, gap, _ => [cur ++ gap]
  | c :: t, cur, gap, co =>
    if c = 44 then cgo t cur (gap ++ [c]) true
    else if isSp c then cgo t cur (gap ++ [c]) co
    else if co then cur :: cgo t [c] [] false
    else cgo t (cur ++ gap ++ [c]) [] false
def commaParts (l : List UInt8) : List (List UInt8) := cgo l [] [] false

theorem cgo_length (l : List UInt8) : ∀ cur gap co, (cgo l cur gap co).length ≤ commasN l + 1 + (if co then 1 else 0) := by
  induction l with
  | nil => intro cur gap co; simp [cgo]; omega
  | cons c t ih =>
    intro cur gap co
    by_cases h : c = 44
    · have h2 := ih cur (gap ++ [c]) true
      simp only [if_true] at h2
      simp only [cgo, commasN, h, if_true]
      rw [h] at h2
      cases co <;> simp <;> omega
    · simp only [cgo, commasN, h, if_false]
      split
      · have := ih cur (gap ++ [c]) co; omega
      · cases co
        · have := ih (cur ++ gap ++ [c]) [] false; simp at this ⊢; omega
        · have := ih [c] [] false; simp at this ⊢; omega
theorem commaParts_length (l : List UInt8) : (commaParts l).length ≤ commasN l + 1 := cgo_length l [] [] false

def isSep (c : UInt8) : Prop := ((c.toNat : Int) = 32 ∨ (c.toNat : Int) = 9 ∨ (c.toNat : Int) = 10)
theorem sep_of1 {n : Int} (h : n = 32) : n = 32 ∨ n = 9 ∨ n = 10 := .inl h
theorem sep_of2 {n : Int} (h : n = 9) : n = 32 ∨ n = 9 ∨ n = 10 := .inr (.inl h)
theorem sep_of3 {n : Int} (_ : ¬ n = 32) (_ : ¬ n = 9) (h : ((n == 32) = true ∨ (n == 9) = true) ∨ (n == 10) = true) : n = 32 ∨ n = 9 ∨ n = 10 := by
  simp only [beq_iff_eq] at h; omega
theorem sep_not {n : Int} (h : ((n == 32) = false ∧ (n == 9) = false) ∧ (n == 10) = false) : ¬ (n = 32 ∨ n = 9 ∨ n = 10) := by
  simp only [beq_eq_false_iff_ne, ne_eq] at h; omega

theorem cgo_comma {s : ByteArray} {k m : Nat} {cur : List UInt8} {co : Bool} (hk : k < s.size) (hm : m ≤ k) (hc : ((s[k].toNat : Int) == 44) = true) :
    cgo ((bs s).drop k) cur (ex s m k) co = cgo ((bs s).drop (k + 1)) cur (ex s m (k + 1)) true := by
  rw [bs_drop s k hk, ex_succ s m k hm hk]
  have : s[k] = 44 := u8_eq (by decide) hc
  simp only [cgo, this, if_true]
theorem cgo_space {s : ByteArray} {k m : Nat} {cur : List UInt8} {co : Bool} (hk : k < s.size) (hm : m ≤ k) (hc : ((s[k].toNat : Int) == 44) = false) (hp : (s[k].toNat : Int) = 32 ∨ (s[k].toNat : Int) = 9 ∨ (s[k].toNat : Int) = 10) :
    cgo ((bs s).drop k) cur (ex s m k) co = cgo ((bs s).drop (k + 1)) cur (ex s m (k + 1)) co := by
  rw [bs_drop s k hk, ex_succ s m k hm hk]
  have h1 : s[k] ≠ 44 := u8_ne (by decide) hc
  have h2 := (isSp_iff s[k]).mpr hp
  simp only [cgo, h1, h2, if_true, if_false]
theorem not_sp {c : UInt8} (hp : ¬ ((c.toNat : Int) = 32 ∨ (c.toNat : Int) = 9 ∨ (c.toNat : Int) = 10)) : isSp c = false := by
  cases h : isSp c
  · rfl
  · exact absurd ((isSp_iff c).mp h) hp
theorem ex_one (s : ByteArray) (k : Nat) (hk : k < s.size) : ex s k (k + 1) = [s[k]] := by
  rw [ex_succ s k k (Nat.le_refl _) hk, ex_self]; rfl
theorem cgo_part {s : ByteArray} {k : Nat} {cur gap : List UInt8} (hk : k < s.size) (hc : ((s[k].toNat : Int) == 44) = false) (hp : ¬ ((s[k].toNat : Int) = 32 ∨ (s[k].toNat : Int) = 9 ∨ (s[k].toNat : Int) = 10)) :
    cgo ((bs s).drop k) cur gap true = cur :: cgo ((bs s).drop (k + 1)) (ex s k (k + 1)) (ex s (k + 1) (k + 1)) false := by
  rw [bs_drop s k hk, ex_self, ex_one s k hk]
  have h1 : s[k] ≠ 44 := u8_ne (by decide) hc
  simp only [cgo, h1, not_sp hp, if_true, if_false, Bool.false_eq_true]
theorem cgo_plain {s : ByteArray} {k a m : Nat} (hk : k < s.size) (ham : a ≤ m) (hmk : m ≤ k) (hc : ((s[k].toNat : Int) == 44) = false) (hp : ¬ ((s[k].toNat : Int) = 32 ∨ (s[k].toNat : Int) = 9 ∨ (s[k].toNat : Int) = 10)) :
    cgo ((bs s).drop k) (ex s a m) (ex s m k) false = cgo ((bs s).drop (k + 1)) (ex s a (k + 1)) (ex s (k + 1) (k + 1)) false := by
  rw [bs_drop s k hk, ex_self, ex_succ s a k (by omega) hk, ← ex_cat s a m k ham hmk]
  have h1 : s[k] ≠ 44 := u8_ne (by decide) hc
  simp only [cgo, h1, not_sp hp, if_false, Bool.false_eq_true]
theorem cgo_end {s : ByteArray} {k a m : Nat} {co : Bool} (hk : ¬ k < s.size) (hk2 : k ≤ s.size) (ham : a ≤ m) (hmk : m ≤ k) :
    cgo ((bs s).drop k) (ex s a m) (ex s m k) co = [bs (s.extract a s.size)] := by
  rw [bs_drop_nil s k hk]
  simp only [cgo]
  rw [ex_cat s a m k ham hmk, ex_eq, show k = s.size by omega]

structure CommaSt (s : ByteArray) (I : List (List UInt8) → World → Prop) (va vb vsp vco vi : Value) (w : World) (k a b m : Nat) (sp co : Bool) (done : List (List UInt8)) : Prop where
  hi : vi = .int .i64 k
  ha : va = .int .i64 a
  hb : vb = .int .i64 b
  hsp : vsp = .bool sp
  hco : vco = .bool co
  hk : k ≤ s.size
  ham : a ≤ m
  hmk : m ≤ k
  h1 : sp = true → b = m
  h2 : sp = false → m = k
  h3 : co = true → sp = true
  spec : Hid (done ++ cgo ((bs s).drop k) (ex s a m) (ex s m k) co = commaParts (bs s))
  inv : Hid (I done w)

set_option maxHeartbeats 4000000 in
set_option maxRecDepth 100000 in
theorem splitComma_any (K : Nat) (cap : Array Value) (hK : ∀ (args : Array Value) (w : World), (callFunc K args).run Tryz.prog w = .ok (.enter K args) w)
    (s : ByteArray) (w : World) (hs : s.size ≤ 1099511627776) (I : List (List UInt8) → World → Prop) (J : List UInt8 → World → Prop)
    (hcall : ∀ done (p : ByteArray) rest w, done ++ bs p :: rest = commaParts (bs s) → p.size ≤ s.size → I done w →
      Calls Tryz.prog K (#[.string p] ++ cap) w fun e w' => (e = .returned .nilIface ∧ I (done ++ [bs p]) w') ∨ (∃ t q, e = .returned (.iface t q) ∧ J (bs p) w'))
    (h0 : I [] w) :
    Calls Tryz.prog 44 #[.string s, .func (.func K) #[] cap] w fun e w' => (e = .returned .nilIface ∧ I (commaParts (bs s)) w') ∨ (∃ t q, e = .returned (.iface t q) ∧ ∃ p ∈ commaParts (bs s), J p w') := by
  replace h0 := hide h0
  replace hcall := hide hcall
  go_enter Tryz.func44, Tryz.ntmps44
  go_wp2
  go_loopw [5, 6, 7, 8, 9] (fun va vb vsp vco vi w => ∃ k a b m sp co done, CommaSt s I va vb vsp vco vi w k a b m sp co done) (fun _ _ _ _ i _ => s.size - (intOf i).toNat)
  case atStart => exact ⟨0, 0, 0, 0, false, false, [], rfl, rfl, rfl, rfl, rfl, Nat.zero_le _, Nat.le_refl _, Nat.le_refl _, by simp, by simp, by simp, hide (by simp [ex_self, commaParts]), h0⟩
  case round =>
    obtain ⟨k, a, b, m, sp, co, done, rfl, rfl, rfl, rfl, rfl, hk, ham, hmk, h1, h2, h3, spec, inv⟩ := hrel
    by_cases hlt : k < s.size
    · cases sp
      · cases co
        · obtain rfl : m = k := h2 rfl
          clear h1 h2 h3
          go_wp2
          all_goals (refine ⟨?_, by simp [intOf] <;> omega⟩)
          · exact ⟨m + 1, a, m, m, true, true, done, rfl, rfl, rfl, rfl, rfl, hlt, ham, by omega, by simp, by simp, by simp, hide (by rw [← cgo_comma hlt hmk (by assumption)]; exact spec.out), inv⟩
          · exact ⟨m + 1, a, m, m, true, false, done, rfl, rfl, rfl, rfl, rfl, hlt, ham, by omega, by simp, by simp, by simp, hide (by rw [← cgo_space hlt hmk (by assumption) (sep_of1 (by assumption))]; exact spec.out), inv⟩
          · exact ⟨m + 1, a, m, m, true, false, done, rfl, rfl, rfl, rfl, rfl, hlt, ham, by omega, by simp, by simp, by simp, hide (by rw [← cgo_space hlt hmk (by assumption) (sep_of2 (by assumption))]; exact spec.out), inv⟩
          · exact ⟨m + 1, a, m, m, true, false, done, rfl, rfl, rfl, rfl, rfl, hlt, ham, by omega, by simp, by simp, by simp, hide (by rw [← cgo_space hlt hmk (by assumption) (sep_of3 (by assumption) (by assumption) (by assumption))]; exact spec.out), inv⟩
          · exact ⟨m + 1, a, b, m + 1, false, false, done, rfl, rfl, rfl, rfl, rfl, hlt, by omega, by omega, by simp, by simp, by simp, hide (by rw [← cgo_plain hlt ham hmk (by assumption) (sep_not (by assumption))]; exact spec.out), inv⟩
        · exact absurd (h3 rfl) (by simp)
      · obtain rfl : b = m := h1 rfl
        clear h1 h2 h3
        cases co
        · go_wp2
          all_goals (refine ⟨?_, by simp [intOf] <;> omega⟩)
          · exact ⟨k + 1, a, b, b, true, true, done, rfl, rfl, rfl, rfl, rfl, hlt, ham, by omega, by simp, by simp, by simp, hide (by rw [← cgo_comma hlt hmk (by assumption)]; exact spec.out), inv⟩
          · exact ⟨k + 1, a, b, b, true, false, done, rfl, rfl, rfl, rfl, rfl, hlt, ham, by omega, by simp, by simp, by simp, hide (by rw [← cgo_space hlt hmk (by assumption) (sep_of1 (by assumption))]; exact spec.out), inv⟩
          · exact ⟨k + 1, a, b, b, true, false, done, rfl, rfl, rfl, rfl, rfl, hlt, ham, by omega, by simp, by simp, by simp, hide (by rw [← cgo_space hlt hmk (by assumption) (sep_of2 (by assumption))]; exact spec.out), inv⟩
          · exact ⟨k + 1, a, b, b, true, false, done, rfl, rfl, rfl, rfl, rfl, hlt, ham, by omega, by simp, by simp, by simp, hide (by rw [← cgo_space hlt hmk (by assumption) (sep_of3 (by assumption) (by assumption) (by assumption))]; exact spec.out), inv⟩
          · exact ⟨k + 1, a, b, k + 1, false, false, done, rfl, rfl, rfl, rfl, rfl, hlt, by omega, by omega, by simp, by simp, by simp, hide (by rw [← cgo_plain hlt ham hmk (by assumption) (sep_not (by assumption))]; exact spec.out), inv⟩
        · go_wp2_with (first | ((with_reducible refine (hcall.out done (s.extract a b) (cgo ((bs s).drop (k + 1)) (ex s k (k + 1)) (ex s (k + 1) (k + 1)) false) wr (by rw [ex_eq, ← cgo_part (gap := ex s b k) hlt (by assumption) (sep_not (by assumption))]; exact spec.out) (by rw [extract_size _ _ _ (by omega)]; omega) inv.out).mono ?_); rintro e w' (⟨rfl, inv2⟩ | ⟨t, q, rfl, hJ⟩)))
          · exact ⟨⟨k + 1, a, b, b, true, true, done, rfl, rfl, rfl, rfl, rfl, hlt, ham, by omega, by simp, by simp, by simp, hide (by rw [← cgo_comma hlt hmk (by assumption)]; exact spec.out), inv⟩, by simp [intOf] <;> omega⟩
          · exact ⟨⟨k + 1, a, b, b, true, true, done, rfl, rfl, rfl, rfl, rfl, hlt, ham, by omega, by simp, by simp, by simp, hide (by rw [← cgo_space hlt hmk (by assumption) (sep_of1 (by assumption))]; exact spec.out), inv⟩, by simp [intOf] <;> omega⟩
          · exact ⟨⟨k + 1, a, b, b, true, true, done, rfl, rfl, rfl, rfl, rfl, hlt, ham, by omega, by simp, by simp, by simp, hide (by rw [← cgo_space hlt hmk (by assumption) (sep_of2 (by assumption))]; exact spec.out), inv⟩, by simp [intOf] <;> omega⟩
          · exact ⟨⟨k + 1, a, b, b, true, true, done, rfl, rfl, rfl, rfl, rfl, hlt, ham, by omega, by simp, by simp, by simp, hide (by rw [← cgo_space hlt hmk (by assumption) (sep_of3 (by assumption) (by assumption) (by assumption))]; exact spec.out), inv⟩, by simp [intOf] <;> omega⟩
          · have hs2 : done ++ bs (s.extract a b) :: cgo ((bs s).drop (k + 1)) (ex s k (k + 1)) (ex s (k + 1) (k + 1)) false = commaParts (bs s) := by rw [ex_eq, ← cgo_part (gap := ex s b k) hlt (by assumption) (sep_not (by assumption))]; exact spec.out
            exact ⟨⟨k + 1, k, b, k + 1, false, false, done ++ [bs (s.extract a b)], rfl, rfl, rfl, rfl, rfl, hlt, by omega, by omega, by simp, by simp, by simp, hide (by rw [List.append_assoc]; exact hs2), hide inv2⟩, by simp [intOf] <;> omega⟩
          · have hs2 : done ++ bs (s.extract a b) :: cgo ((bs s).drop (k + 1)) (ex s k (k + 1)) (ex s (k + 1) (k + 1)) false = commaParts (bs s) := by rw [ex_eq, ← cgo_part (gap := ex s b k) hlt (by assumption) (sep_not (by assumption))]; exact spec.out
            go_ret
            exact .inr ⟨t, q, rfl, _, by rw [← hs2]; simp, hJ⟩
    · replace spec := hide (cgo_end hlt hk ham hmk ▸ spec.out)
      go_wp2_with (first | ((with_reducible refine (hcall.out done (s.extract a s.size) [] wr spec.out (by rw [extract_size _ _ _ (by omega)]; omega) inv.out).mono ?_); rintro e w' (⟨rfl, inv2⟩ | ⟨t, q, rfl, hJ⟩)))
      · go_ret
        exact .inl ⟨rfl, by rw [← spec.out]; exact inv2⟩
      · go_ret
        exact .inr ⟨t, q, rfl, _, by rw [← spec.out]; simp, hJ⟩
end Go.Proofs.YtgmbjdoifkjdhaaGreatDoor
end
