/- Texts of numbers: decimal literals, and how they are scanned. The text of a number out of its digits and the place of the dot: it is a literal of the same value. NaN and Inf: the reader's special words. Which text stands for which number; the text of digits does. underscoreOK. -/
import Derived.Test.YtgmbjdoifkjdhaaGreatDoorKd
import Derived.Deep.DeepCutAuto
import Derived.Deep.CutBlock
section
namespace Go.Proofs.YtgmbjdoifkjdhaaGreatDoor
open Go.RowKit

def isD (c : UInt8) : Prop := 48 ≤ c.toNat ∧ c.toNat ≤ 57
instance (c : UInt8) : Decidable (isD c) := inferInstanceAs (Decidable (_ ∧ _))
/-- The value of digits behind another value. -/
def dva (a : Nat) : List UInt8 → Nat
  | [] => a
  | c :: t => dva (a * 10 + (c.toNat - 48)) t
theorem dva_cat (a : Nat) (x y : List UInt8) : dva a (x ++ y) = dva (dva a x) y := by
  induction x generalizing a with
  | nil => rfl
  | cons c t ih => exact ih _
theorem dva_ge (a : Nat) (x : List UInt8) : a ≤ dva a x := by
  induction x generalizing a with
  | nil => exact Nat.le_refl _
  | cons c t ih => exact Nat.le_trans (by omega) (ih (a * 10 + (c.toNat - 48)))

/-- What the reader of digits has seen: mantissa, digits, digits kept, place of the dot; dot, digits, underscores, more. -/
structure Sc where
  m : Nat
  nd : Nat
  nm : Nat
  dp : Int
  dot : Bool
  dig : Bool
  und : Bool
  tr : Bool
def Sc.step (c : UInt8) (s : Sc) : Option Sc :=
  if c = 95 then some { s with und := true }
  else if c = 46 then (if s.dot then none else some { s with dot := true, dp := s.nd })
  else if isD c then
    (if c = 48 ∧ s.nd = 0 then some { s with dig := true, dp := s.dp - 1 }
     else if s.nm < 19 then some { s with dig := true, nd := s.nd + 1, m := s.m * 10 + (c.toNat - 48), nm := s.nm + 1 }
     else some { s with dig := true, nd := s.nd + 1, tr := s.tr || c != 48 })
  else none
def Sc.run : List UInt8 → Sc → Sc × List UInt8
  | [], s => (s, [])
  | c :: t, s => match s.step c with
    | some s' => Sc.run t s'
    | none => (s, c :: t)
def Sc.zero : Sc := ⟨0, 0, 0, 0, false, false, false, false⟩

/-- As long as the value is small all digits are kept. -/
structure Sc.Ok (s : Sc) : Prop where
  eq : s.nm = s.nd
  pow : s.nd ≠ 0 → 10 ^ (s.nd - 1) ≤ s.m
  zero : s.nd = 0 → s.m = 0
theorem Sc.Ok.small {s : Sc} (h : s.Ok) (hm : s.m < 144115188075855872) : s.nm < 19 := by
  rw [h.eq]
  rcases Nat.lt_or_ge s.nd 19 with h1 | h1
  · exact h1
  · have h2 := h.pow (by omega)
    have h3 : 10 ^ 18 ≤ 10 ^ (s.nd - 1) := Nat.pow_le_pow_right (by decide) (by omega)
    have : (144115188075855872 : Nat) < 10 ^ 18 := by decide
    omega
theorem digit_ne {c : UInt8} (h : isD c) : c ≠ 95 ∧ c ≠ 46 := by
  constructor <;> rintro rfl <;> exact absurd h (by decide)
/-- Digits, all kept. -/
theorem Sc.digits (rest : List UInt8) : ∀ (x : List UInt8) (s : Sc), (∀ c ∈ x, isD c) → s.Ok → dva s.m x < 144115188075855872 →
    ∃ s', Sc.run (x ++ rest) s = Sc.run rest s' ∧ s'.Ok ∧ s'.m = dva s.m x ∧ s'.dot = s.dot ∧ s'.und = s.und ∧ s'.tr = s.tr ∧ (s'.dig = (s.dig || !x.isEmpty)) ∧ s'.nd - s'.dp = s.nd - s.dp + x.length := by
  intro x
  induction x with
  | nil => intro s _ hs _; exact ⟨s, rfl, hs, rfl, rfl, rfl, rfl, by simp, by simp⟩
  | cons c x ih =>
    intro s hx hs hm
    have hc := hx c (by simp)
    obtain ⟨n1, n2⟩ := digit_ne hc
    have hxx := fun d hd => hx d (List.mem_cons_of_mem _ hd)
    have hm0 : s.m * 10 + (c.toNat - 48) < 144115188075855872 := Nat.lt_of_le_of_lt (dva_ge _ x) hm
    have hsm := hs.small (by omega)
    by_cases h0 : c = 48 ∧ s.nd = 0
    · have hstep : s.step c = some { s with dig := true, dp := s.dp - 1 } := by simp only [Sc.step, if_neg n1, if_neg n2, if_pos hc, if_pos h0]
      have hz := hs.zero h0.2
      have hm' : dva s.m x < 144115188075855872 := by
        have : dva s.m (c :: x) = dva (s.m * 10 + (c.toNat - 48)) x := rfl
        rw [this, hz, h0.1] at hm
        rw [hz]; exact hm
      obtain ⟨s', e, k1, k2, k3, k4, k5, k6, k7⟩ := ih { s with dig := true, dp := s.dp - 1 } hxx ⟨hs.eq, hs.pow, hs.zero⟩ hm'
      refine ⟨s', ?_, k1, ?_, k3, k4, k5, ?_, ?_⟩
      · rw [List.cons_append]; simp only [Sc.run, hstep]; exact e
      · rw [k2]; show dva s.m x = dva (s.m * 10 + (c.toNat - 48)) x; rw [hz, h0.1]; rfl
      · rw [k6]; simp
      · rw [k7]; simp only [List.length_cons]; omega
    · have hstep : s.step c = some { s with dig := true, nd := s.nd + 1, m := s.m * 10 + (c.toNat - 48), nm := s.nm + 1 } := by
        simp only [Sc.step, if_neg n1, if_neg n2, if_pos hc, if_neg h0, if_pos hsm]
      have hok : Sc.Ok { s with dig := true, nd := s.nd + 1, m := s.m * 10 + (c.toNat - 48), nm := s.nm + 1 } := by
        refine ⟨by show s.nm + 1 = s.nd + 1; rw [hs.eq], fun _ => ?_, fun h => by cases h⟩
        show 10 ^ (s.nd + 1 - 1) ≤ s.m * 10 + (c.toNat - 48)
        by_cases hn : s.nd = 0
        · rw [hn, hs.zero hn]
          have : c.toNat ≠ 48 := fun h => h0 ⟨by rw [← UInt8.toNat_inj]; exact h, hn⟩
          have := hc.1
          show 1 ≤ 0 * 10 + (c.toNat - 48)
          omega
        · have h1 := hs.pow hn
          have h2 : 10 ^ (s.nd + 1 - 1) = 10 ^ (s.nd - 1) * 10 := by rw [← Nat.pow_succ]; congr 1; omega
          rw [h2]; omega
      obtain ⟨s', e, k1, k2, k3, k4, k5, k6, k7⟩ := ih _ hxx hok hm
      refine ⟨s', ?_, k1, k2, k3, k4, k5, ?_, ?_⟩
      · rw [List.cons_append]; simp only [Sc.run, hstep]; exact e
      · rw [k6]; simp
      · rw [k7]; simp only [List.length_cons]; omega

/-- The digits of an exponent. -/
def exa : List UInt8 → Nat → Bool → Nat × Bool × List UInt8
  | [], e, u => (e, u, [])
  | c :: t, e, u => if isD c then exa t (if e < 10000 then e * 10 + (c.toNat - 48) else e) u else if c = 95 then exa t e true else (e, u, c :: t)
theorem exa_digits : ∀ (x : List UInt8) (e : Nat) (u : Bool), (∀ c ∈ x, isD c) → dva e x < 10000 → exa x e u = (dva e x, u, []) := by
  intro x
  induction x with
  | nil => intro e u _ _; rfl
  | cons c x ih =>
    intro e u hx hm
    have hc := hx c (by simp)
    have h0 : e < 10000 := by
      have h1 : e * 10 + (c.toNat - 48) ≤ dva e (c :: x) := dva_ge (e * 10 + (c.toNat - 48)) x
      omega
    simp only [exa, if_pos hc, if_pos h0]
    exact ih _ u (fun d hd => hx d (List.mem_cons_of_mem _ hd)) hm

/-- What stands behind the digits: nothing, or e, a sign and digits. -/
inductive ExT : List UInt8 → Int → Prop
  | none : ExT [] 0
  | plus {x : List UInt8} (hx : ∀ c ∈ x, isD c) (hne : x ≠ []) (hb : dva 0 x < 10000) : ExT (101 :: 43 :: x) (dva 0 x)
  | minus {x : List UInt8} (hx : ∀ c ∈ x, isD c) (hne : x ≠ []) (hb : dva 0 x < 10000) : ExT (101 :: 45 :: x) (-(dva 0 x : Int))
/-- The dot and what stands behind it. -/
inductive FrT : List UInt8 → List UInt8 → Prop
  | none : FrT [] []
  | some {x : List UInt8} (hx : ∀ c ∈ x, isD c) : FrT (46 :: x) x
/-- A decimal literal without a sign: its digits' value, its exponent. -/
def LitB (l : List UInt8) (m : Nat) (e : Int) : Prop :=
  ∃ ip fr fp ex ev, l = ip ++ (fr ++ ex) ∧ ip ≠ [] ∧ (∀ c ∈ ip, isD c) ∧ FrT fr fp ∧ ExT ex ev ∧ m = dva 0 (ip ++ fp) ∧ m < 144115188075855872 ∧ e = ev - fp.length
def Lit (l : List UInt8) (neg : Bool) (m : Nat) (e : Int) : Prop := ∃ l', l = (if neg then [45] else []) ++ l' ∧ LitB l' m e
theorem Sc.stop {ex : List UInt8} {ev : Int} (h : ExT ex ev) (s : Sc) : Sc.run ex s = (s, ex) := by
  have h1 : ∀ t, Sc.run (101 :: t) s = (s, 101 :: t) := fun t => by
    have : s.step 101 = Option.none := by simp [Sc.step, isD]
    simp only [Sc.run, this]
  cases h with
  | none => rfl
  | plus _ _ _ => exact h1 _
  | minus _ _ _ => exact h1 _
/-- How a literal is scanned. -/
theorem lit_scan {l : List UInt8} {m : Nat} {e : Int} (h : LitB l m e) : ∃ s' ex ev, Sc.run l Sc.zero = (s', ex) ∧ ExT ex ev ∧ s'.m = m ∧ s'.nm = s'.nd ∧ s'.dig = true ∧ s'.und = false ∧ s'.tr = false ∧
    e = ev + (if s'.dot then s'.dp else s'.nd) - s'.nm := by
  obtain ⟨ip, fr, fp, ex, ev, rfl, hne, hip, hfr, hex, rfl, hm, rfl⟩ := h
  have hz : Sc.zero.Ok := ⟨rfl, fun h => absurd rfl h, fun _ => rfl⟩
  have hm1 : dva 0 ip < 144115188075855872 := by rw [dva_cat] at hm; exact Nat.lt_of_le_of_lt (dva_ge _ _) hm
  obtain ⟨s1, e1, k1, k2, k3, k4, k5, k6, k7⟩ := Sc.digits (fr ++ ex) ip Sc.zero hip hz hm1
  have hd : s1.dig = true := by rw [k6]; cases ip with
    | nil => exact absurd rfl hne
    | cons c t => rfl
  cases hfr with
  | none =>
    refine ⟨s1, ex, ev, ?_, hex, ?_, k1.eq, hd, k4, k5, ?_⟩
    · rw [e1]; exact Sc.stop hex s1
    · rw [k2]; simp [Sc.zero]
    · have : s1.dot = false := k3
      rw [this, k1.eq]; simp
  | some hx =>
    have hstep : s1.step 46 = Option.some { s1 with dot := true, dp := s1.nd } := by
      have : s1.dot = false := k3
      simp [Sc.step, this]
    have hok : Sc.Ok { s1 with dot := true, dp := s1.nd } := ⟨k1.eq, k1.pow, k1.zero⟩
    obtain ⟨s2, e2, j1, j2, j3, j4, j5, j6, j7⟩ := Sc.digits ex fp { s1 with dot := true, dp := s1.nd } hx hok (by rw [dva_cat] at hm; rw [k2]; exact hm)
    refine ⟨s2, ex, ev, ?_, hex, ?_, j1.eq, ?_, ?_, ?_, ?_⟩
    · rw [e1, List.cons_append]
      simp only [Sc.run, hstep]
      rw [e2]; exact Sc.stop hex s2
    · rw [j2, dva_cat, k2]; rfl
    · rw [j6, hd]; rfl
    · rw [j4]; exact k4
    · rw [j5]; exact k5
    · have h1 : s2.dot = true := j3
      rw [h1, j1.eq]
      simp only [if_true] at j7 ⊢
      omega
end Go.Proofs.YtgmbjdoifkjdhaaGreatDoor
end
section
namespace Go.Proofs.YtgmbjdoifkjdhaaGreatDoor
open Go.RowKit

/-- A digit's byte. -/
def dg (n : Nat) : UInt8 := UInt8.ofNat (48 + n)
theorem dg_nat {n : Nat} (h : n < 10) : (dg n).toNat = 48 + n := by
  unfold dg; rw [UInt8.toNat_ofNat']; exact Nat.mod_eq_of_lt (by omega)
theorem dg_isD {n : Nat} (h : n < 10) : isD (dg n) := by unfold isD; rw [dg_nat h]; omega
/-- The sign and the digits of the exponent. -/
def expT (e : Int) : List UInt8 :=
  (if e < 0 then 45 else 43) :: (if e.natAbs < 10 then [48, dg e.natAbs] else if e.natAbs < 100 then [dg (e.natAbs / 10), dg (e.natAbs % 10)]
    else [dg (e.natAbs / 100), dg (e.natAbs / 10 % 10), dg (e.natAbs % 10)])
def fT (ds : List UInt8) (dp : Int) : List UInt8 :=
  (if 0 < dp then ds.take dp.toNat ++ List.replicate (dp.toNat - ds.length) 48 else [48]) ++ (if dp < ds.length then 46 :: (List.replicate (-dp).toNat 48 ++ ds.drop dp.toNat) else [])
def eT (ds : List UInt8) (dp : Int) : List UInt8 := ds.take 1 ++ ((if 1 < ds.length then 46 :: ds.drop 1 else []) ++ 101 :: expT (dp - 1))
/-- The text of a number in the shortest form. -/
def gT (neg : Bool) (ds : List UInt8) (dp : Int) : List UInt8 := (if neg then [45] else []) ++ (if dp < -3 ∨ 6 < dp then eT ds dp else fT ds dp)

theorem dva_two (a b : UInt8) : dva 0 [a, b] = (0 * 10 + (a.toNat - 48)) * 10 + (b.toNat - 48) := rfl
theorem dva_three (a b c : UInt8) : dva 0 [a, b, c] = ((0 * 10 + (a.toNat - 48)) * 10 + (b.toNat - 48)) * 10 + (c.toNat - 48) := rfl
theorem t48 : (48 : UInt8).toNat = 48 := by decide
theorem exp_ext {e : Int} (h : e.natAbs < 1000) : ExT (101 :: expT e) e := by
  have key : ∀ x : List UInt8, (∀ c ∈ x, isD c) → x ≠ [] → dva 0 x = e.natAbs → ExT (101 :: (if e < 0 then 45 else 43) :: x) e := by
    intro x hx hne hv
    by_cases h0 : e < 0
    · rw [if_pos h0]
      have := ExT.minus hx hne (by omega)
      rwa [show -((dva 0 x : Nat) : Int) = e by omega] at this
    · rw [if_neg h0]
      have := ExT.plus hx hne (by omega)
      rwa [show ((dva 0 x : Nat) : Int) = e by omega] at this
  unfold expT
  refine key _ ?_ ?_ ?_
  · intro c hc
    split at hc
    · simp only [List.mem_cons, List.not_mem_nil, or_false] at hc
      rcases hc with rfl | rfl
      · decide
      · exact dg_isD (by assumption)
    · split at hc
      · simp only [List.mem_cons, List.not_mem_nil, or_false] at hc
        rcases hc with rfl | rfl <;> exact dg_isD (by omega)
      · simp only [List.mem_cons, List.not_mem_nil, or_false] at hc
        rcases hc with rfl | rfl | rfl <;> exact dg_isD (by omega)
  · split
    · simp
    · split <;> simp
  · split
    · rename_i h1
      rw [dva_two, dg_nat h1, t48]; omega
    · split
      · rw [dva_two, dg_nat (show e.natAbs / 10 < 10 by omega), dg_nat (show e.natAbs % 10 < 10 by omega)]; omega
      · rw [dva_three, dg_nat (show e.natAbs / 100 < 10 by omega), dg_nat (show e.natAbs / 10 % 10 < 10 by omega), dg_nat (show e.natAbs % 10 < 10 by omega)]; omega
theorem dva_zero (a : Nat) (t : List UInt8) : dva a (48 :: t) = dva (a * 10) t := by
  have : dva a (48 :: t) = dva (a * 10 + ((48 : UInt8).toNat - 48)) t := rfl
  rw [this, t48]; rfl
theorem dva_zeros (a k : Nat) : dva a (List.replicate k 48) = a * 10 ^ k := by
  induction k generalizing a with
  | zero => rw [Nat.pow_zero, Nat.mul_one]; rfl
  | succ k ih => rw [List.replicate_succ, dva_zero, ih, Nat.pow_succ, Nat.mul_comm (10 ^ k) 10, ← Nat.mul_assoc]
theorem dva_lt (a : Nat) (x : List UInt8) (h : ∀ c ∈ x, isD c) : dva a x < (a + 1) * 10 ^ x.length := by
  induction x generalizing a with
  | nil => show a < (a + 1) * 10 ^ 0; rw [Nat.pow_zero]; omega
  | cons c t ih =>
    have hc := h c (by simp)
    unfold isD at hc
    have h1 := ih (a * 10 + (c.toNat - 48)) fun c hc => h c (by simp [hc])
    have h2 : (a * 10 + (c.toNat - 48) + 1) * 10 ^ t.length ≤ ((a + 1) * 10) * 10 ^ t.length := Nat.mul_le_mul_right _ (by omega)
    show dva (a * 10 + (c.toNat - 48)) t < _
    rw [List.length_cons, Nat.pow_succ, Nat.mul_comm (10 ^ t.length) 10, ← Nat.mul_assoc]
    omega
theorem zeros_isD (k : Nat) : ∀ c ∈ List.replicate k (48 : UInt8), isD c := by
  intro c hc
  rw [List.eq_of_mem_replicate hc]
  decide
theorem litb_f (ds : List UInt8) (dp : Int) (h : ∀ c ∈ ds, isD c) (hv : dva 0 ds < 100000000000000000) (hd : dp ≤ 17) (hz : ds = [] → dp = 0) :
    ∃ j : Nat, (j = 0 ∨ dp - ds.length - j = 0) ∧ LitB (fT ds dp) (dva 0 ds * 10 ^ j) (dp - ds.length - j) := by
  unfold fT
  by_cases h0 : 0 < dp
  · rw [if_pos h0]
    by_cases h1 : dp < ds.length
    · refine ⟨0, .inl rfl, ds.take dp.toNat, 46 :: ds.drop dp.toNat, ds.drop dp.toNat, [], 0, ?_, ?_, ?_, FrT.some ?_, ExT.none, ?_, ?_, ?_⟩
      · rw [if_pos h1, show dp.toNat - ds.length = 0 by omega, show (-dp).toNat = 0 by omega]
        simp
      · intro he
        have := congrArg List.length he
        rw [List.length_take, List.length_nil] at this
        omega
      · exact fun c hc => h c (List.mem_of_mem_take hc)
      · exact fun c hc => h c (List.mem_of_mem_drop hc)
      · rw [List.take_append_drop]; simp
      · simp; omega
      · rw [List.length_drop]; omega
    · have h3 := dva_lt 0 ds h
      refine ⟨dp.toNat - ds.length, .inr (by omega), ds ++ List.replicate (dp.toNat - ds.length) 48, [], [], [], 0, ?_, ?_, ?_, FrT.none, ExT.none, ?_, ?_, ?_⟩
      · rw [if_neg h1, List.take_of_length_le (by omega)]; simp
      · intro he
        have := congrArg List.length he
        rw [List.length_append, List.length_replicate, List.length_nil] at this
        omega
      · intro c hc
        rcases List.mem_append.mp hc with hc | hc
        · exact h c hc
        · exact zeros_isD _ c hc
      · rw [List.append_nil, dva_cat, dva_zeros]
      · have h4 : dva 0 ds * 10 ^ (dp.toNat - ds.length) < 10 ^ ds.length * 10 ^ (dp.toNat - ds.length) := Nat.mul_lt_mul_of_pos_right (by simpa using h3) (Nat.pow_pos (by decide))
        rw [← Nat.pow_add] at h4
        have h5 : 10 ^ (ds.length + (dp.toNat - ds.length)) ≤ 10 ^ 17 := Nat.pow_le_pow_right (by decide) (by omega)
        exact Nat.lt_of_lt_of_le h4 (Nat.le_trans h5 (by decide))
      · simp; omega
  · rw [if_neg h0]
    by_cases h1 : dp < ds.length
    · refine ⟨0, .inl rfl, [48], 46 :: (List.replicate (-dp).toNat 48 ++ ds.drop dp.toNat), List.replicate (-dp).toNat 48 ++ ds.drop dp.toNat, [], 0, ?_, by simp, ?_, FrT.some ?_, ExT.none, ?_, ?_, ?_⟩
      · rw [if_pos h1, List.append_nil]
      · intro c hc; rw [List.mem_singleton.mp hc]; decide
      · intro c hc
        rcases List.mem_append.mp hc with hc | hc
        · exact zeros_isD _ c hc
        · exact h c (List.mem_of_mem_drop hc)
      · rw [show dp.toNat = 0 by omega, List.drop_zero, dva_cat, dva_cat, show dva 0 [48] = 0 from by decide, dva_zeros, Nat.zero_mul, Nat.pow_zero, Nat.mul_one]
      · simp; omega
      · rw [List.length_append, List.length_replicate, List.length_drop]; omega
    · have hl : ds = [] := List.eq_nil_of_length_eq_zero (by omega)
      have hdp := hz hl
      subst hl
      subst hdp
      refine ⟨0, .inl rfl, [48], [], [], [], 0, by simp, by simp, ?_, FrT.none, ExT.none, by decide, by decide, by simp⟩
      intro c hc; rw [List.mem_singleton.mp hc]; decide
theorem litb_e (ds : List UInt8) (dp : Int) (h : ∀ c ∈ ds, isD c) (hv : dva 0 ds < 100000000000000000) (hne : ds ≠ []) (hd : (dp - 1).natAbs < 1000) : LitB (eT ds dp) (dva 0 ds) (dp - ds.length) := by
  unfold eT
  have hex := exp_ext hd
  have hlen : 0 < ds.length := by
    rcases Nat.eq_zero_or_pos ds.length with h0 | h0
    · exact absurd (List.eq_nil_of_length_eq_zero h0) hne
    · exact h0
  have hne1 : ds.take 1 ≠ [] := by
    intro he
    have := congrArg List.length he
    rw [List.length_take, List.length_nil] at this
    omega
  by_cases h1 : 1 < ds.length
  · rw [if_pos h1]
    refine ⟨ds.take 1, _, ds.drop 1, _, _, rfl, hne1, fun c hc => h c (List.mem_of_mem_take hc), FrT.some fun c hc => h c (List.mem_of_mem_drop hc), hex, ?_, ?_, ?_⟩
    · rw [List.take_append_drop]
    · omega
    · rw [List.length_drop]; omega
  · rw [if_neg h1]
    refine ⟨ds.take 1, [], [], _, _, rfl, hne1, fun c hc => h c (List.mem_of_mem_take hc), FrT.none, hex, ?_, ?_, ?_⟩
    · rw [List.append_nil, List.take_of_length_le (by omega)]
    · omega
    · rw [List.length_nil]; omega
/-- The text is a literal of the digits' value. -/
theorem lit_g (neg : Bool) (ds : List UInt8) (dp : Int) (h : ∀ c ∈ ds, isD c) (hv : dva 0 ds < 100000000000000000) (hz : ds = [] → dp = 0) (hd : -900 ≤ dp ∧ dp ≤ 900) :
    ∃ j : Nat, (j = 0 ∨ dp - ds.length - j = 0) ∧ Lit (gT neg ds dp) neg (dva 0 ds * 10 ^ j) (dp - ds.length - j) := by
  unfold gT
  by_cases h1 : dp < -3 ∨ 6 < dp
  · rw [if_pos h1]
    have := litb_e ds dp h hv (fun he => by have := hz he; omega) (by omega)
    exact ⟨0, .inl rfl, _, rfl, by simpa using this⟩
  · rw [if_neg h1]
    obtain ⟨j, h2, hj⟩ := litb_f ds dp h hv (by omega) hz
    exact ⟨j, h2, _, rfl, hj⟩
end Go.Proofs.YtgmbjdoifkjdhaaGreatDoor
end
section
namespace Go.Proofs.YtgmbjdoifkjdhaaGreatDoor
open Go.RowKit

def nanW : Nat := 9221120237041090561
def infW : Nat := 9218868437227405312
def ninfW : Nat := 18442240474082181120
theorem nan_any (w : World) : Calls Tryz.prog 154 #[] w fun e w' => e = .returned (.float .f64 nanW) ∧ w = w' := by
  have hd := run143
  go_enter Tryz.func154, Tryz.ntmps154
  go_wp2
  go_ret
  exact ⟨rfl, rfl⟩
theorem inf_pos (w : World) : Calls Tryz.prog 153 #[.int .i64 1] w fun e w' => e = .returned (.float .f64 infW) ∧ w = w' := by
  have hd := run143
  go_enter Tryz.func153, Tryz.ntmps153
  go_wp2
  go_ret
  exact ⟨rfl, rfl⟩
theorem inf_neg (w : World) : Calls Tryz.prog 153 #[.int .i64 (-1)] w fun e w' => e = .returned (.float .f64 ninfW) ∧ w = w' := by
  have hd := run143
  go_enter Tryz.func153, Tryz.ntmps153
  go_wp2
  go_ret
  exact ⟨rfl, rfl⟩
/-- In lower case. -/
def lowI (c : UInt8) : Int := if 65 ≤ (c.toNat : Int) ∧ (c.toNat : Int) ≤ 90 then (c.toNat : Int) + 32 else c.toNat
/-- How far two texts go together. -/
structure Comm (s p : ByteArray) (k : Nat) : Prop where
  l1 : k ≤ s.size
  l2 : k ≤ p.size
  same : ∀ j (h : j < s.size) (h' : j < p.size), j < k → lowI s[j] = p[j].toNat
theorem Comm.step {s p : ByteArray} {k : Nat} (h : Comm s p k) (h1 : k < s.size) (h2 : k < p.size) (he : lowI s[k] = p[k].toNat) : Comm s p (k + 1) := by
  refine ⟨h1, h2, fun j hj hj' hlt => ?_⟩
  by_cases e : j = k
  · subst e; exact he
  · exact h.same j hj hj' (by omega)
def Ends (s p : ByteArray) (k : Nat) : Prop := ∀ (h : k < s.size) (h' : k < p.size), lowI s[k] ≠ p[k].toNat
theorem common_any (s p : ByteArray) (w : World) (hs : s.size ≤ 1099511627776) :
    Calls Tryz.prog 152 #[.string s, .string p] w fun e w' => (∃ k : Nat, e = .returned (.int .i64 k) ∧ Comm s p k ∧ Ends s p k) ∧ w = w' := by
  obtain ⟨n, hn⟩ : ∃ n, min p.size s.size = n := ⟨_, rfl⟩
  have hn1 : n ≤ p.size := by omega
  have hn2 : n ≤ s.size := by omega
  have hn3 : p.size ≤ n ∨ s.size ≤ n := by omega
  have hmin : min (p.size : Int) s.size = n := by omega
  go_enter Tryz.func152, Tryz.ntmps152
  go_wp2
  go_loop [6, 7] (fun i _ => ∃ k : Nat, k ≤ n ∧ i = .int .i64 k ∧ Hid (Comm s p k)) (fun i _ => n - (intOf i).toNat)
  case atStart => exact ⟨0, Nat.zero_le _, rfl, hide ⟨Nat.zero_le _, Nat.zero_le _, fun j _ _ h => absurd h (Nat.not_lt_zero _)⟩⟩
  case round =>
    obtain ⟨k, hk, rfl, hz⟩ := hrel
    by_cases hlt : k < n
    · have h1 : k < s.size := by omega
      have h2 : k < p.size := by omega
      go_wp2
      all_goals first
        | (go_ret
           refine ⟨⟨k, rfl, hz.out, fun _ _ => ?_⟩, rfl⟩
           unfold lowI
           simp only [bne_iff_ne, ne_eq] at *
           split <;> omega)
        | (refine ⟨⟨k + 1, hlt, rfl, hide (hz.out.step h1 h2 ?_)⟩, by simp [intOf]; omega⟩
           unfold lowI
           simp only [bne_eq_false_iff_eq] at *
           split <;> omega)
    · obtain rfl : k = n := by omega
      go_wp2
      go_ret
      exact ⟨⟨k, rfl, hz.out, fun h h' => by omega⟩, rfl⟩

/-- A literal begins with a digit, or a minus and a digit. -/
theorem litb_head {l : List UInt8} {m : Nat} {e : Int} (h : LitB l m e) : ∃ c t, l = c :: t ∧ isD c := by
  obtain ⟨ip, fr, fp, ex, ev, rfl, hne, hip, _⟩ := h
  cases ip with
  | nil => exact absurd rfl hne
  | cons c t => exact ⟨c, t ++ (fr ++ ex), rfl, hip c (by simp)⟩
theorem lit_head {s : ByteArray} {neg : Bool} {m : Nat} {e : Int} (h : Lit (bs s) neg m e) : 0 < s.size ∧ (∀ h : 0 < s.size, neg = false → isD s[0]) ∧ (neg = true → 1 < s.size ∧ (∀ h : 0 < s.size, s[0] = 45) ∧ ∀ h : 1 < s.size, isD s[1]) := by
  obtain ⟨l, hl, hb⟩ := h
  obtain ⟨c, t, rfl, hc⟩ := litb_head hb
  have hlen := congrArg List.length hl
  rw [bs_len] at hlen
  cases neg with
  | false =>
    refine ⟨by rw [hlen]; simp, fun h0 _ => ?_, fun h => by cases h⟩
    rw [getElem_of_bs h0 (c := c) (by rw [hl]; rfl)]; exact hc
  | true =>
    refine ⟨by rw [hlen]; simp, fun h0 h => (by cases h), fun _ => ⟨by rw [hlen]; simp, fun h0 => ?_, fun h1 => ?_⟩⟩
    · exact getElem_of_bs h0 (by rw [hl]; rfl)
    · rw [getElem_of_bs h1 (c := c) (by rw [hl]; rfl)]; exact hc
/-- What the reader of special words answers. -/
structure SpOut (s : ByteArray) (x : Nat) (n : Int) (ok : Bool) : Prop where
  ge : 0 ≤ n
  le : n ≤ s.size
  good : Fl.Good x
  nan : bs s = [78, 97, 78] → x = nanW ∧ n = 3 ∧ ok = true
  inf : bs s = [43, 73, 110, 102] → x = infW ∧ n = 4 ∧ ok = true
  ninf : bs s = [45, 73, 110, 102] → x = ninfW ∧ n = 4 ∧ ok = true
  lit : ∀ neg m e, Lit (bs s) neg m e → ok = false
def pInf : ByteArray := ⟨#[105, 110, 102, 105, 110, 105, 116, 121]⟩
def pNan : ByteArray := ⟨#[110, 97, 110]⟩
theorem good_nan : Fl.Good nanW := ⟨by decide, .inr rfl⟩
theorem good_inf : Fl.Good infW := ⟨by decide, .inl (by decide)⟩
theorem good_ninf : Fl.Good ninfW := ⟨by decide, .inl (by decide)⟩
theorem good_zero : Fl.Good 0 := ⟨by decide, .inl (by decide)⟩
theorem sp_of_bs {s : ByteArray} {l : List UInt8} (h : bs s = l) : s = tx l := by rw [← h, tx_bs]
theorem comm_eq {s p : ByteArray} {k n : Nat} (h : Comm s p k) (he : Ends s p k) (hs : n ≤ s.size) (hp : n ≤ p.size) (hsame : ∀ j (h : j < s.size) (h' : j < p.size), j < n → lowI s[j] = p[j].toNat) (hend : n = s.size ∨ n = p.size) : k = n := by
  have h1 := h.l1
  have h2 := h.l2
  rcases Nat.lt_trichotomy k n with hlt | rfl | hgt
  · exact absurd (hsame k (by omega) (by omega) hlt) (he (by omega) (by omega))
  · rfl
  · omega
/-- What the leaves need to know of the text. -/
structure SpF (s : ByteArray) (h0 : 0 < s.size) : Prop where
  nan : bs s = [78, 97, 78] → s.size = 3 ∧ (s[0].toNat : Int) = 78 ∧ ∀ k, Comm s pNan k → Ends s pNan k → k = 3
  inf : bs s = [43, 73, 110, 102] → s.size = 4 ∧ (s[0].toNat : Int) = 43 ∧ ∀ k, Comm (s.extract 1 s.size) pInf k → Ends (s.extract 1 s.size) pInf k → k = 3
  ninf : bs s = [45, 73, 110, 102] → s.size = 4 ∧ (s[0].toNat : Int) = 45 ∧ ∀ k, Comm (s.extract 1 s.size) pInf k → Ends (s.extract 1 s.size) pInf k → k = 3
  lit : ∀ neg m e, Lit (bs s) neg m e → (48 ≤ (s[0].toNat : Int) ∧ (s[0].toNat : Int) ≤ 57) ∨ ((s[0].toNat : Int) = 45 ∧ ∀ k, Comm (s.extract 1 s.size) pInf k → k = 0)
theorem three (t : ByteArray) (ht : t = tx [73, 110, 102]) : ∀ k, Comm t pInf k → Ends t pInf k → k = 3 := by
  subst ht
  intro k h1 h2
  refine comm_eq h1 h2 (by decide) (by decide) ?_ (.inl rfl)
  intro j hj _ h3
  rcases j with _ | _ | _ | j
  · rfl
  · rfl
  · rfl
  · omega
theorem spF (s : ByteArray) (h0 : 0 < s.size) : SpF s h0 := by
  refine ⟨fun h => ?_, fun h => ?_, fun h => ?_, fun neg m e h => ?_⟩
  · obtain rfl := sp_of_bs h
    refine ⟨rfl, rfl, fun k h1 h2 => comm_eq h1 h2 (by decide) (by decide) ?_ (.inl rfl)⟩
    intro j hj _ h3
    rcases j with _ | _ | _ | j
    · rfl
    · rfl
    · rfl
    · omega
  · obtain rfl := sp_of_bs h
    exact ⟨rfl, rfl, three _ (bs_inj (by rw [bs_extract, bs_tx, bs_tx]; rfl))⟩
  · obtain rfl := sp_of_bs h
    exact ⟨rfl, rfl, three _ (bs_inj (by rw [bs_extract, bs_tx, bs_tx]; rfl))⟩
  · obtain ⟨_, h1, h2⟩ := lit_head h
    cases neg with
    | false =>
      have := h1 h0 rfl
      unfold isD at this
      exact .inl ⟨by omega, by omega⟩
    | true =>
      obtain ⟨h3, h4, h5⟩ := h2 rfl
      refine .inr ⟨by rw [h4 h0]; rfl, fun k hk => ?_⟩
      rcases Nat.eq_zero_or_pos k with h6 | h6
      · exact h6
      · have h7 : 0 < (s.extract 1 s.size).size := Nat.lt_of_lt_of_le h6 hk.l1
        have h8 := hk.same 0 h7 (by decide) h6
        have h9 : (s.extract 1 s.size)[0] = s[1] := by
          refine getElem_of_bs h7 ?_
          rw [bs_extract, take_all _ _ (by omega), List.getElem?_drop]
          exact bs_at s 1 h3
        rw [h9] at h8
        have h10 := h5 h3
        unfold isD at h10
        unfold lowI at h8
        rw [if_neg (by omega)] at h8
        have : (pInf[0]'(by decide)).toNat = 105 := rfl
        omega
def SpRes (s : ByteArray) (v : Value) : Prop := ∃ (x : Nat) (n : Int) (ok : Bool), v = .tuple #[.float .f64 x, .int .i64 n, .bool ok] ∧ SpOut s x n ok
set_option maxHeartbeats 8000000 in
theorem special_any (s : ByteArray) (w : World) (hs : s.size ≤ 1099511627776) :
    Calls Tryz.prog 133 #[.string s] w fun e w' => (∃ v, e = .returned v ∧ SpRes s v) ∧ w = w' := by
  have hx0 : 0 < s.size → (s.extract 1 s.size).size + 1 = s.size := fun h => by rw [extract_size _ _ _ (Nat.le_refl _)]; omega
  by_cases h0 : 0 < s.size
  · have hx1 := hx0 h0
    have F := hide (spF s h0)
    go_enter Tryz.func133, Tryz.ntmps133
    go_wp2_with (first
      | (go_at_call 152; (with_reducible refine (common_any (s.extract 1 s.size) ⟨#[105, 110, 102, 105, 110, 105, 116, 121]⟩ _ (by omega)).mono ?_); rintro e w' ⟨⟨k, rfl, hck, hek⟩, rfl⟩; have hk2 : k ≤ 8 := hck.l2; have hk1 := hck.l1)
      | (go_at_call 152; (with_reducible refine (common_any s ⟨#[105, 110, 102, 105, 110, 105, 116, 121]⟩ _ hs).mono ?_); rintro e w' ⟨⟨k, rfl, hck, hek⟩, rfl⟩; have hk2 : k ≤ 8 := hck.l2; have hk1 := hck.l1)
      | (go_at_call 152; (with_reducible refine (common_any s ⟨#[110, 97, 110]⟩ _ hs).mono ?_); rintro e w' ⟨⟨k, rfl, hck, hek⟩, rfl⟩; have hk2 : k ≤ 3 := hck.l2; have hk1 := hck.l1)
      | (go_at_call 153; (with_reducible refine (inf_pos _).mono ?_); rintro e w' ⟨rfl, rfl⟩)
      | (go_at_call 153; (with_reducible refine (inf_neg _).mono ?_); rintro e w' ⟨rfl, rfl⟩)
      | (go_at_call 154; (with_reducible refine (nan_any _).mono ?_); rintro e w' ⟨rfl, rfl⟩))
    all_goals go_ret3
    all_goals simp only [beq_iff_eq, beq_eq_false_iff_ne, ne_eq] at *
    all_goals exact ⟨⟨_, rfl, _, _, _, rfl, by omega, (by omega), (by first | exact good_zero | exact good_nan | exact good_inf | exact good_ninf), fun h => (by
      obtain ⟨f1, f2, f3⟩ := F.out.nan h
      first
      | (exfalso; omega)
      | (have f4 := f3 _ hck hek
         first
         | exact ⟨rfl, by omega, rfl⟩
         | (exfalso; omega))), fun h => (by
      obtain ⟨f1, f2, f3⟩ := F.out.inf h
      first
      | (exfalso; omega)
      | (have f4 := f3 _ hck hek
         first
         | exact ⟨rfl, by omega, rfl⟩
         | (exfalso; omega))), fun h => (by
      obtain ⟨f1, f2, f3⟩ := F.out.ninf h
      first
      | (exfalso; omega)
      | (have f4 := f3 _ hck hek
         first
         | exact ⟨rfl, by omega, rfl⟩
         | (exfalso; omega))), fun neg m e h => (by
      have hL := F.out.lit _ _ _ h
      rcases hL with ⟨f1, f2⟩ | ⟨f1, f2⟩
      · first
        | rfl
        | (exfalso; omega)
      · first
        | rfl
        | (exfalso; omega)
        | (have f4 := f2 _ hck
           exfalso; omega))⟩, by trivial⟩
  · go_enter Tryz.func133, Tryz.ntmps133
    go_wp2
    go_ret3
    refine ⟨⟨_, rfl, _, _, _, rfl, by omega, by omega, good_zero, fun h => ?_, fun h => ?_, fun h => ?_, fun neg m e h => rfl⟩, rfl⟩
    all_goals (have := congrArg List.length h; rw [bs_len] at this; simp at this; omega)
end Go.Proofs.YtgmbjdoifkjdhaaGreatDoor
end
section
namespace Go.Proofs.YtgmbjdoifkjdhaaGreatDoor
open Go.RowKit

/-- A literal's bits: 0, or the nearest float. -/
def Val (neg : Bool) (m : Nat) (e : Int) (b : Nat) : Prop :=
  (m = 0 ∧ b = Fl.wordOf neg 0) ∨ (0 < m ∧ -345 ≤ e ∧ e ≤ 310 ∧ ∃ M k : Nat, 0 < M ∧ M < 9007199254740992 ∧ (k = 0 ∨ 4503599627370496 ≤ M) ∧ k < 2046 ∧
    Fl.Near (m * 10 ^ e.toNat * 2 ^ 1076) (10 ^ (-e).toNat * 2 ^ k) M (0 < k) ∧ b = Fl.wordOf neg (k * 4503599627370496 + M))
def w1 : Nat := 4607182418800017408
def w2 : Nat := 4611686018427387904
def w3 : Nat := 4613937818241073152
def w4 : Nat := 4616189618054758400
/-- The text of these bits. -/
def NumT (l : List UInt8) (b : Nat) : Prop :=
  (l = [78, 97, 78] ∧ b = nanW) ∨ (l = [43, 73, 110, 102] ∧ b = infW) ∨ (l = [45, 73, 110, 102] ∧ b = ninfW) ∨ ∃ neg m e, Lit l neg m e ∧ Val neg m e b
/-- The same; four numbers have one text alone. -/
structure NT (l : List UInt8) (b : Nat) : Prop where
  is : NumT l b
  one : b = w1 → l = [49]
  two : b = w2 → l = [50]
  three : b = w3 → l = [51]
  four : b = w4 → l = [52]
theorem inner_all : ((List.range 256).all fun n => (isSp (UInt8.ofNat n) || cls (UInt8.ofNat n)) == false || !(decide (48 ≤ n ∧ n ≤ 57) || n == 46 || n == 101 || n == 43 || n == 45 || n == 78 || n == 97 || n == 73 || n == 110 || n == 102)) = true := by kernel_rfl
theorem inner_of {c : UInt8} (h : isD c ∨ c = 46 ∨ c = 101 ∨ c = 43 ∨ c = 45 ∨ c = 78 ∨ c = 97 ∨ c = 73 ∨ c = 110 ∨ c = 102) : Inner c := by
  have h1 := List.all_eq_true.mp inner_all c.toNat (List.mem_range.mpr c.toNat_lt)
  rw [UInt8.ofNat_toNat] at h1
  have h2 : (isSp c || cls c) = false ∧ c ≠ 32 ∧ c ≠ 44 ∧ c ≠ 40 ∧ c ≠ 41 := by
    rcases h with h | rfl | rfl | rfl | rfl | rfl | rfl | rfl | rfl | rfl
    · unfold isD at h
      have h3 : decide (48 ≤ c.toNat ∧ c.toNat ≤ 57) = true := by simp [h]
      rw [h3] at h1
      refine ⟨by simpa using h1, ?_, ?_, ?_, ?_⟩ <;> (rintro rfl; revert h; decide)
    all_goals decide
  rw [Bool.or_eq_false_iff] at h2
  exact ⟨h2.2.1, h2.2.2.1, h2.2.2.2.1, h2.2.2.2.2, h2.1.1, h2.1.2⟩
theorem lit_chars {l : List UInt8} {neg : Bool} {m : Nat} {e : Int} (h : Lit l neg m e) : ∀ c ∈ l, isD c ∨ c = 46 ∨ c = 101 ∨ c = 43 ∨ c = 45 := by
  obtain ⟨l', rfl, ip, fr, fp, ex, ev, rfl, _, hip, hfr, hex, _⟩ := h
  intro c hc
  rcases List.mem_append.mp hc with hc | hc
  · cases neg
    · simp at hc
    · simp at hc; subst hc; simp
  rcases List.mem_append.mp hc with hc | hc
  · exact .inl (hip c hc)
  rcases List.mem_append.mp hc with hc | hc
  · cases hfr with
    | none => simp at hc
    | some hx =>
      rcases List.mem_cons.mp hc with rfl | hc
      · simp
      · exact .inl (hx c hc)
  · cases hex with
    | none => simp at hc
    | plus hx _ _ =>
      rcases List.mem_cons.mp hc with rfl | hc
      · simp
      rcases List.mem_cons.mp hc with rfl | hc
      · simp
      · exact .inl (hx c hc)
    | minus hx _ _ =>
      rcases List.mem_cons.mp hc with rfl | hc
      · simp
      rcases List.mem_cons.mp hc with rfl | hc
      · simp
      · exact .inl (hx c hc)
theorem lit_ne {l : List UInt8} {neg : Bool} {m : Nat} {e : Int} (h : Lit l neg m e) : l ≠ [] := by
  obtain ⟨l', rfl, ip, fr, fp, ex, ev, rfl, hne, _⟩ := h
  intro he
  have := List.append_eq_nil_iff.mp (List.append_eq_nil_iff.mp he).2
  exact hne this.1
theorem nt_inner (l : List UInt8) (b : Nat) (h : NT l b) : ∀ c ∈ l, Inner c := by
  intro c hc
  refine inner_of ?_
  rcases h.is with ⟨rfl, _⟩ | ⟨rfl, _⟩ | ⟨rfl, _⟩ | ⟨neg, m, e, hl, _⟩
  · simp at hc; rcases hc with rfl | rfl | rfl <;> simp
  · simp at hc; rcases hc with rfl | rfl | rfl | rfl <;> simp
  · simp at hc; rcases hc with rfl | rfl | rfl | rfl <;> simp
  · rcases lit_chars hl c hc with h | h | h | h | h
    · exact .inl h
    · simp [h]
    · simp [h]
    · simp [h]
    · simp [h]
theorem nt_some (l : List UInt8) (b : Nat) (h : NT l b) : l ≠ [] := by
  rcases h.is with ⟨rfl, _⟩ | ⟨rfl, _⟩ | ⟨rfl, _⟩ | ⟨neg, m, e, hl, _⟩
  · simp
  · simp
  · simp
  · exact lit_ne hl
theorem near_move {P Q : Int} {d s t c b M : Nat} {low : Prop} (hc : 0 < b) (hPQ : P + s = Q + t) (h : Fl.Near (d * 10 ^ s * 10 ^ P.toNat * c) (10 ^ (-P).toNat * b) M low) : Fl.Near (d * 10 ^ t * 10 ^ Q.toNat * c) (10 ^ (-Q).toNat * b) M low := by
  refine h.cross (Nat.mul_pos (Nat.pow_pos (by omega)) hc) ?_ (Nat.mul_pos (Nat.pow_pos (by omega)) hc)
  have e : s + P.toNat + (-Q).toNat = t + Q.toNat + (-P).toNat := by omega
  have e2 : (10 : Nat) ^ s * 10 ^ P.toNat * 10 ^ (-Q).toNat = 10 ^ t * 10 ^ Q.toNat * 10 ^ (-P).toNat := by rw [← Nat.pow_add, ← Nat.pow_add, ← Nat.pow_add, ← Nat.pow_add, e]
  generalize (10 : Nat) ^ s = x1 at *
  generalize (10 : Nat) ^ P.toNat = x2 at *
  generalize (10 : Nat) ^ (-Q).toNat = x3 at *
  generalize (10 : Nat) ^ t = x4 at *
  generalize (10 : Nat) ^ Q.toNat = x5 at *
  generalize (10 : Nat) ^ (-P).toNat = x6 at *
  calc d * x1 * x2 * c * (x3 * b) = (x1 * x2 * x3) * (d * c * b) := by grind
    _ = (x4 * x5 * x6) * (d * c * b) := by rw [e2]
    _ = d * x4 * x5 * c * (x6 * b) := by grind
/-- Digits whose value, with zeros behind them, is the short one: their text stands for the number. -/
theorem val_g (neg : Bool) (ds : List UInt8) (P dp : Int) (t M k : Nat) (h : ∀ c ∈ ds, isD c) (h0 : 0 < dva 0 ds) (hv : dva 0 ds < 100000000000000000) (hdp : dp = P + t + ds.length) (ht : ds.length + t ≤ 17) (hP : -325 < P ∧ P < 294)
    (hM0 : 0 < M) (hM : M < 9007199254740992) (hk : k = 0 ∨ 4503599627370496 ≤ M) (hk2 : k < 2046)
    (hn : Fl.Near (dva 0 ds * 10 ^ t * 10 ^ P.toNat * 2 ^ 1076) (10 ^ (-P).toNat * 2 ^ k) M (0 < k)) :
    ∃ m e, Lit (gT neg ds dp) neg m e ∧ Val neg m e (Fl.wordOf neg (k * 4503599627370496 + M)) := by
  obtain ⟨j, hj1, hj⟩ := lit_g neg ds dp h hv (fun he => by subst he; exact absurd h0 (by decide)) (by omega)
  have hn2 := near_move (Q := dp - ds.length - j) (t := j) (Nat.two_pow_pos k) (by omega) hn
  exact ⟨_, _, hj, .inr ⟨Nat.mul_pos h0 (Nat.pow_pos (by decide)), by omega, by omega, M, k, hM0, hM, hk, hk2, hn2, rfl⟩⟩
theorem expT_len (e : Int) : (expT e).length ≤ 4 := by
  by_cases a : e.natAbs < 10
  · simp [expT, a]
  · by_cases b : e.natAbs < 100
    · simp [expT, a, b]
    · simp [expT, a, b]
theorem eT_len (ds : List UInt8) (dp : Int) (h : ds.length ≤ 17) : (eT ds dp).length ≤ 23 := by
  have h2 := expT_len (dp - 1)
  unfold eT
  rw [List.length_append, List.length_append, List.length_cons, List.length_take]
  by_cases h3 : 1 < ds.length
  · rw [if_pos h3, List.length_cons, List.length_drop]; omega
  · rw [if_neg h3, List.length_nil]; omega
theorem fT_len (ds : List UInt8) (dp : Int) (h : ds.length ≤ 17) (h1 : -3 ≤ dp) (h2 : dp ≤ 6) : (fT ds dp).length ≤ 23 := by
  unfold fT
  rw [List.length_append]
  have h3 : (if 0 < dp then ds.take dp.toNat ++ List.replicate (dp.toNat - ds.length) 48 else [48] : List UInt8).length = if 0 < dp then dp.toNat else 1 := by
    by_cases h3 : 0 < dp
    · rw [if_pos h3, if_pos h3, List.length_append, List.length_take, List.length_replicate]; omega
    · rw [if_neg h3, if_neg h3]; rfl
  have h4 : (if dp < ds.length then 46 :: (List.replicate (-dp).toNat 48 ++ ds.drop dp.toNat) else [] : List UInt8).length ≤ 1 + (-dp).toNat + (ds.length - dp.toNat) := by
    by_cases h4 : dp < ds.length
    · rw [if_pos h4, List.length_cons, List.length_append, List.length_replicate, List.length_drop]; omega
    · rw [if_neg h4]; simp
  rw [h3]
  by_cases h5 : 0 < dp
  · rw [if_pos h5]; omega
  · rw [if_neg h5]; omega
theorem gT_len (neg : Bool) (ds : List UInt8) (dp : Int) (h : ds.length ≤ 17) : (gT neg ds dp).length ≤ 24 := by
  have h1 : ((if neg then [45] else []) : List UInt8).length ≤ 1 := by cases neg <;> simp
  unfold gT
  rw [List.length_append]
  by_cases h2 : dp < -3 ∨ 6 < dp
  · rw [if_pos h2]
    have := eT_len ds dp h
    omega
  · rw [if_neg h2]
    have := fT_len ds dp h (by omega) (by omega)
    omega
end Go.Proofs.YtgmbjdoifkjdhaaGreatDoor
end
section
namespace Go.Proofs.YtgmbjdoifkjdhaaGreatDoor
open Go.RowKit

/-- lower. -/
def lowB (c : UInt8) : Int := bits .or .u8 (c.toNat : Int) 32
theorem lower_any (c : UInt8) (w : World) : Calls Tryz.prog 114 #[.int .u8 c.toNat] w fun e w' => e = .returned (.int .u8 (lowB c)) ∧ w = w' :=
  (Tryz.internal_strconv_lower (c.toNat : Int) w).mono fun _ _ h => ⟨h.1, h.2.symm⟩
def IsB (v : Value) : Prop := ∃ b, v = .bool b
set_option maxRecDepth 100000 in
set_option maxHeartbeats 4000000 in
theorem under_any (s : ByteArray) (w : World) (hs : s.size ≤ 1099511627776) :
    Calls Tryz.prog 155 #[.string s] w fun e w' => (∃ v, e = .returned v ∧ IsB v) ∧ w = w' := by
  go_enter Tryz.func155, Tryz.ntmps155
  go_upto_region 3 with (fail)
  go_cut [18] (fun s18 w' => (∃ b, s18 = .bool b ∧ (b = true → 1 ≤ s.size)) ∧ w = w')
  case first =>
    go_wp2
    all_goals (go_meet; case rel => exact ⟨⟨_, rfl, fun h => by first | omega | cases h⟩, rfl⟩)
  case rest =>
    obtain ⟨⟨b, rfl, hb⟩, rfl⟩ := hcut
    go_upto_if 18 with (fail)
    go_cut [0] (fun s0 w' => (∃ u : ByteArray, s0 = .string u ∧ u.size ≤ 1099511627776) ∧ w = w')
    case first =>
      cases b
      · go_wp2
        go_meet; case rel => exact ⟨⟨_, rfl, hs⟩, rfl⟩
      · have hb1 := hb rfl
        have hx : (s.extract 1 s.size).size ≤ s.size := by rw [extract_size _ _ _ (Nat.le_refl _)]; omega
        go_wp2
        go_meet; case rel => exact ⟨⟨_, rfl, by omega⟩, rfl⟩
    case rest =>
      obtain ⟨⟨u, rfl, hu⟩, rfl⟩ := hcut
      go_upto_region 6 with (fail)
      go_cut [46] (fun s46 w' => (∃ b, s46 = .bool b ∧ (b = true → 2 ≤ u.size)) ∧ w = w')
      case first =>
        go_wp2_with (first | (go_at_call 114; (with_reducible refine (lower_any _ _).mono ?_); rintro e w' ⟨rfl, rfl⟩))
        all_goals (go_meet; case rel => exact ⟨⟨_, rfl, fun h => by first | omega | cases h⟩, rfl⟩)
      case rest =>
        obtain ⟨⟨b, rfl, hb2⟩, rfl⟩ := hcut
        go_upto_if 46 with (fail)
        go_cut [3, 4, 5] (fun s3 s4 s5 w' => (∃ (c : Int) (k : Nat) (x : Bool), s3 = .int .i32 c ∧ s4 = .int .i64 k ∧ s5 = .bool x ∧ k ≤ u.size) ∧ w = w')
        case first =>
          cases b
          · go_wp2
            go_meet; case rel => exact ⟨⟨_, 0, _, rfl, rfl, rfl, Nat.zero_le _⟩, rfl⟩
          · have hb3 := hb2 rfl
            go_wp2_with (first | (go_at_call 114; (with_reducible refine (lower_any _ _).mono ?_); rintro e w' ⟨rfl, rfl⟩))
            go_meet; case rel => exact ⟨⟨_, 2, _, rfl, rfl, rfl, hb3⟩, rfl⟩
        case rest =>
          obtain ⟨⟨c, k, x, rfl, rfl, rfl, hk⟩, rfl⟩ := hcut
          go_wp2
          go_loop [2, 3, 4] (fun s2 s3 s4 => ∃ (y : Bool) (c : Int) (k : Nat), s2 = .bool y ∧ s3 = .int .i32 c ∧ s4 = .int .i64 k ∧ k ≤ u.size) (fun _ _ s4 => u.size - (intOf s4).toNat)
          case atStart => exact ⟨_, _, _, rfl, rfl, rfl, hk⟩
          case round =>
            obtain ⟨y, c, k, rfl, rfl, rfl, hk⟩ := hrel
            by_cases hlt : k < u.size
            · cases x
              all_goals (
                go_wp2_with (first | (go_at_call 114; (with_reducible refine (lower_any _ _).mono ?_); rintro e w' ⟨rfl, rfl⟩))
                all_goals first
                  | (go_ret; exact ⟨⟨_, rfl, _, rfl⟩, rfl⟩)
                  | exact ⟨⟨_, _, k + 1, rfl, rfl, rfl, hlt⟩, by simp [intOf]; omega⟩)
            · go_wp2
              go_ret
              exact ⟨⟨_, rfl, _, rfl⟩, rfl⟩
end Go.Proofs.YtgmbjdoifkjdhaaGreatDoor
end
