/- The plain law of the text: what is read is well-formed; a text that was written is read as what was written. The plain law of the text, for all geometries: a text that was written is read as what was written. -/
import Derived.Test.YtgmbjdoifkjdhaaGreatDoorKk
section
namespace Go.Proofs.YtgmbjdoifkjdhaaGreatDoor
open Go.RowKit

def GoodRing (r : List (Nat × Nat)) : Prop := r ≠ [] ∧ ∀ p ∈ r, GoodPt p
/-- Rings are not empty, nor are the polygons of several; all numbers are good. -/
inductive WF : Geom → Prop
  | pt {p : Nat × Nat} (h : GoodPt p) : WF (.pt p)
  | line {ps : List (Nat × Nat)} (h : ∀ p ∈ ps, GoodPt p) : WF (.line ps)
  | poly {rs : List (List (Nat × Nat))} (h : ∀ r ∈ rs, GoodRing r) : WF (.poly rs)
  | mpt {ps : List (Nat × Nat)} (h : ∀ p ∈ ps, GoodPt p) : WF (.mpt ps)
  | mline {rs : List (List (Nat × Nat))} (h : ∀ r ∈ rs, GoodRing r) : WF (.mline rs)
  | mpoly {xs : List (List (List (Nat × Nat)))} (h : ∀ rs ∈ xs, rs ≠ [] ∧ ∀ r ∈ rs, GoodRing r) : WF (.mpoly xs)
  | coll {gs : List Geom} (h : ∀ (i : Nat) (g : Geom), gs[i]? = some g → WF g) : WF (.coll gs)

theorem All2.mem2 {X : Type} {R : List UInt8 → X → Prop} {ps : List (List UInt8)} {xs : List X} (h : All2 R ps xs) : ∀ x ∈ xs, ∃ p ∈ ps, R p x := by
  induction h with
  | nil => intro x hx; cases hx
  | cons h1 _ ih =>
    intro x hx
    rcases List.mem_cons.mp hx with rfl | hx
    · exact ⟨_, List.mem_cons_self .., h1⟩
    · obtain ⟨p, hp, hr⟩ := ih x hx; exact ⟨p, List.mem_cons_of_mem _ hp, hr⟩
theorem All2.ne {X : Type} {R : List UInt8 → X → Prop} {ps : List (List UInt8)} {xs : List X} (h : All2 R ps xs) (hp : ps ≠ []) : xs ≠ [] := by
  cases h with
  | nil => exact absurd rfl hp
  | cons h1 h2 => simp
theorem All2.uniq {X : Type} {R T : List UInt8 → X → Prop} {ps : List (List UInt8)} {xs ys : List X} (h : All2 R ps xs) (k : All2 T ps ys) (hu : ∀ p ∈ ps, ∀ x y, R p x → T p y → x = y) : xs = ys := by
  induction h generalizing ys with
  | nil => cases k; rfl
  | cons h1 _ ih =>
    cases k with
    | cons k1 k2 => rw [hu _ (List.mem_cons_self ..) _ _ h1 k1, ih k2 fun p hp => hu p (List.mem_cons_of_mem _ hp)]
theorem All2.mem1 {X : Type} {R : List UInt8 → X → Prop} {ps : List (List UInt8)} {xs : List X} (h : All2 R ps xs) : ∀ p ∈ ps, ∃ x, R p x := by
  induction h with
  | nil => intro x hx; cases hx
  | cons h1 _ ih =>
    intro x hx
    rcases List.mem_cons.mp hx with rfl | hx
    · exact ⟨_, h1⟩
    · exact ih x hx
theorem cgo_ne (l : List UInt8) : ∀ cur gap co, cgo l cur gap co ≠ [] := by
  induction l with
  | nil => intro cur gap co; simp [cgo]
  | cons c t ih =>
    intro cur gap co
    simp only [cgo]
    repeat' split
    all_goals first
      | exact ih _ _ _
      | simp
theorem parts_ne {s : ByteArray} {dbl : Bool} {ps : List (List UInt8)} (h : Parts s dbl ps) : ps ≠ [] := by
  obtain ⟨ms, _, rfl⟩ := h
  cases ms with
  | nil => simp [rsp]
  | cons m ms => obtain ⟨f, t⟩ := m; simp [rsp]
theorem ring_wf {NT : List UInt8 → Nat → Prop} {l : List UInt8} {ps : List (Nat × Nat)} (h : RingR NT l ps) : GoodRing ps := by
  obtain ⟨t, _, h2⟩ := h
  refine ⟨h2.ne (cgo_ne _ _ _ _), fun p hp => ?_⟩
  obtain ⟨q, _, hr⟩ := h2.mem2 p hp
  exact hr.1
theorem mps_wf {NT : List UInt8 → Nat → Prop} {l : List UInt8} {ps : List (Nat × Nat)} (h : MpsR NT l ps) : ∀ p ∈ ps, GoodPt p := by
  obtain ⟨t, _, h2⟩ := h
  intro p hp
  obtain ⟨q, _, t', _, hr⟩ := h2.mem2 p hp
  exact hr.1
theorem poly_wf {NT : List UInt8 → Nat → Prop} {l : List UInt8} {rs : List (List (Nat × Nat))} (h : PolyR NT l rs) : rs ≠ [] ∧ ∀ r ∈ rs, GoodRing r := by
  obtain ⟨t, ps, _, h1, h2⟩ := h
  refine ⟨h2.ne (parts_ne h1), fun r hr => ?_⟩
  obtain ⟨q, _, hr⟩ := h2.mem2 r hr
  exact ring_wf hr
theorem mpoly_wf {NT : List UInt8 → Nat → Prop} {l : List UInt8} {xs : List (List (List (Nat × Nat)))} (h : MpolyR NT l xs) : ∀ rs ∈ xs, rs ≠ [] ∧ ∀ r ∈ rs, GoodRing r := by
  obtain ⟨t, ps, _, h1, h2⟩ := h
  intro rs hr
  obtain ⟨q, _, hr⟩ := h2.mem2 rs hr
  exact poly_wf hr
theorem unr_wf {NT : List UInt8 → Nat → Prop} {s : ByteArray} {g : Geom} (h : UnR NT s g) : WF g := by
  induction h with
  | pt _ _ h => obtain ⟨t, _, h2⟩ := h; exact .pt h2.1
  | line _ _ h =>
    rcases h.2 with ⟨rfl, _⟩ | h2
    · exact .line (by simp)
    · exact .line (ring_wf h2).2
  | poly _ _ h =>
    rcases h.2 with ⟨rfl, _⟩ | h2
    · exact .poly (by simp)
    · exact .poly (poly_wf h2).2
  | mpt _ _ h =>
    rcases h.2 with ⟨rfl, _⟩ | h2
    · exact .mpt (by simp)
    · exact .mpt (mps_wf h2)
  | mline _ _ h =>
    rcases h.2 with ⟨rfl, _⟩ | h2
    · exact .mline (by simp)
    · exact .mline (poly_wf h2).2
  | mpoly _ _ h =>
    rcases h.2 with ⟨rfl, _⟩ | h2
    · exact .mpoly (by simp)
    · exact .mpoly (mpoly_wf h2)
  | empty _ _ _ => exact .coll (by simp)
  | @coll s0 s t us gs _ _ _ _ _ hl _ ih =>
    refine .coll fun i g hg => ?_
    have hi : i < us.length := by rw [hl]; exact (List.getElem?_eq_some_iff.mp hg).1
    exact ih i us[i] g (List.getElem?_eq_getElem hi) hg

/-- Pieces joined by commas. -/
def jn : List (List UInt8) → List UInt8
  | [] => []
  | [p] => p
  | p :: q :: r => p ++ 44 :: jn (q :: r)
def jt : List (List UInt8) → List UInt8
  | [] => []
  | q :: r => 44 :: jn (q :: r)
theorem jn_cons (p : List UInt8) (r : List (List UInt8)) : jn (p :: r) = p ++ jt r := by
  cases r with
  | nil => simp [jn, jt]
  | cons q r => rfl
/-- In brackets. -/
def br (l : List UInt8) : List UInt8 := 40 :: (l ++ [41])
def RingT (NT : List UInt8 → Nat → Prop) (l : List UInt8) (ps : List (Nat × Nat)) : Prop := ∃ ls, ls ≠ [] ∧ All2 (PtText NT) ls ps ∧ l = br (jn ls)
def MemT (NT : List UInt8 → Nat → Prop) (l : List UInt8) (p : Nat × Nat) : Prop := ∃ t, PtText NT t p ∧ l = br t
def MpsT (NT : List UInt8 → Nat → Prop) (l : List UInt8) (ps : List (Nat × Nat)) : Prop := ∃ ls, ls ≠ [] ∧ All2 (MemT NT) ls ps ∧ l = br (jn ls)
def PolyT (NT : List UInt8 → Nat → Prop) (l : List UInt8) (rs : List (List (Nat × Nat))) : Prop := ∃ ls, ls ≠ [] ∧ All2 (RingT NT) ls rs ∧ l = br (jn ls)
def MpolyT (NT : List UInt8 → Nat → Prop) (l : List UInt8) (xs : List (List (List (Nat × Nat)))) : Prop := ∃ ls, ls ≠ [] ∧ All2 (PolyT NT) ls xs ∧ l = br (jn ls)

/-- Two bytes or more, no space at either end. -/
def TidyL (l : List UInt8) : Prop := ∃ a m b, l = a :: (m ++ [b]) ∧ isSp a = false ∧ isSp b = false
theorem TidyL.tidy {l : List UInt8} (h : TidyL l) : Tidy (tx l) := by
  obtain ⟨a, m, b, rfl, ha, hb⟩ := h
  have hs : (tx (a :: (m ++ [b]))).size = m.length + 2 := by rw [tx_size]; simp
  refine ⟨by omega, fun h => ?_, fun h => ?_⟩
  · have : (tx (a :: (m ++ [b])))[0] = a := getElem_of_bs h (by rw [bs_tx]; rfl)
    rw [this]; exact ha
  · have : (tx (a :: (m ++ [b])))[(tx (a :: (m ++ [b]))).size - 1] = b := by
      refine getElem_of_bs h ?_
      rw [bs_tx, hs, show m.length + 2 - 1 = m.length + 1 by omega, List.getElem?_cons_succ, List.getElem?_append_right (Nat.le_refl _)]
      simp
    rw [this]; exact hb
theorem trim_tidy {l : List UInt8} {t : ByteArray} (h : TidyL l) (ht : TrimR (tx l) t) : t = tx l := ht.2.2 h.tidy
theorem br_tidy (l : List UInt8) : TidyL (br l) := ⟨40, l, 41, rfl, by decide, by decide⟩
theorem brok {l : List UInt8} {t : ByteArray} (hl : TidyL l) (h : BrOk (tx (br l)) t) : t = tx l := trim_tidy hl (h.2 l (bs_tx _))
theorem brbad {l : List UInt8} (h : BrBad (tx (br l))) : False := h l (bs_tx _)
theorem tidy_cat {p q : List UInt8} (hp : TidyL p) (hq : TidyL q) (c : UInt8) : TidyL (p ++ c :: q) := by
  obtain ⟨a, m, b, rfl, ha, hb⟩ := hp
  obtain ⟨a', m', b', rfl, ha', hb'⟩ := hq
  exact ⟨a, m ++ [b] ++ c :: a' :: m', b', by simp, ha, hb'⟩
theorem jn_tidy {ls : List (List UInt8)} (h : ∀ p ∈ ls, TidyL p) (hne : ls ≠ []) : TidyL (jn ls) := by
  induction ls with
  | nil => exact absurd rfl hne
  | cons p r ih =>
    cases r with
    | nil => exact h p (by simp)
    | cons q r => exact tidy_cat (h p (by simp)) (ih (fun x hx => h x (List.mem_cons_of_mem _ hx)) (by simp)) 44

section
variable {NT : List UInt8 → Nat → Prop} (N : NumIO NT)
include N
theorem pt_tidy {l : List UInt8} {p : Nat × Nat} (h : PtText NT l p) : TidyL l := by
  obtain ⟨a, b, rfl, ha, hb⟩ := h
  have ha1 := N.inner _ _ ha
  have hb1 := N.inner _ _ hb
  obtain ⟨a0, a1, rfl⟩ := List.exists_cons_of_ne_nil (N.some_ _ _ ha)
  have hb2 := List.dropLast_concat_getLast (N.some_ _ _ hb)
  refine ⟨a0, a1 ++ 32 :: b.dropLast, b.getLast (N.some_ _ _ hb), ?_, (ha1 a0 (by simp)).2.2.2.2.1, (hb1 _ (List.getLast_mem _)).2.2.2.2.1⟩
  conv => lhs; rw [← hb2]
  simp
theorem pt_plain {l : List UInt8} {p : Nat × Nat} (h : PtText NT l p) : ∀ c ∈ l, c ≠ 44 ∧ c ≠ 40 ∧ c ≠ 41 := by
  obtain ⟨a, b, rfl, ha, hb⟩ := h
  have ha1 := N.inner _ _ ha
  have hb1 := N.inner _ _ hb
  intro c hc
  rcases List.mem_append.mp hc with hc | hc
  · exact ⟨(ha1 c hc).2.1, (ha1 c hc).2.2.1, (ha1 c hc).2.2.2.1⟩
  · rcases List.mem_cons.mp hc with rfl | hc
    · decide
    · exact ⟨(hb1 c hc).2.1, (hb1 c hc).2.2.1, (hb1 c hc).2.2.2.1⟩
end

theorem cgo_in (t : List UInt8) (z : UInt8) (hz : isSp z = false) (hz2 : z ≠ 44) : ∀ (m cur gap : List UInt8), (∀ c ∈ m, c ≠ 44) → cgo (m ++ z :: t) cur gap false = cgo t (cur ++ gap ++ (m ++ [z])) [] false := by
  intro m
  induction m with
  | nil => intro cur gap _; simp [cgo, hz, hz2]
  | cons c m ih =>
    intro cur gap h
    have hc := h c (by simp)
    have hm := fun c hc => h c (List.mem_cons_of_mem _ hc)
    rw [List.cons_append]
    simp only [cgo, if_neg hc]
    by_cases hs : isSp c = true
    · rw [if_pos hs, ih _ _ hm]; simp
    · rw [if_neg hs]
      simp only [Bool.false_eq_true, if_false]
      rw [ih _ _ hm]; simp
theorem cgo_jt : ∀ (r : List (List UInt8)) (cur : List UInt8), (∀ p ∈ r, TidyL p ∧ ∀ c ∈ p, c ≠ 44) → cgo (jt r) cur [] false = cur :: r := by
  intro r
  induction r with
  | nil => intro cur _; simp [jt, cgo]
  | cons q r ih =>
    intro cur h
    obtain ⟨⟨a, m, b, rfl, ha, hb⟩, hq⟩ := h q (by simp)
    have ha2 := hq a (by simp)
    have hb2 := hq b (by simp)
    show cgo (44 :: jn ((a :: (m ++ [b])) :: r)) cur [] false = _
    rw [jn_cons, List.cons_append, List.append_assoc]
    simp only [cgo, if_true, if_neg ha2, ha, Bool.false_eq_true, if_false, List.cons_append, List.nil_append]
    rw [cgo_in _ b hb hb2 m _ _ (fun c hc => hq c (by simp [hc]))]
    rw [ih _ (fun p hp => h p (List.mem_cons_of_mem _ hp))]
    simp
theorem commaParts_jn {ls : List (List UInt8)} (hne : ls ≠ []) (h : ∀ p ∈ ls, TidyL p ∧ ∀ c ∈ p, c ≠ 44) : commaParts (jn ls) = ls := by
  obtain ⟨q, r, rfl⟩ := List.exists_cons_of_ne_nil hne
  obtain ⟨⟨a, m, b, rfl, ha, hb⟩, hq⟩ := h q (by simp)
  have ha2 := hq a (by simp)
  have hb2 := hq b (by simp)
  unfold commaParts
  rw [jn_cons, List.cons_append, List.append_assoc]
  simp only [cgo, if_neg ha2, ha, Bool.false_eq_true, if_false, List.cons_append, List.nil_append]
  rw [cgo_in _ b hb hb2 m _ _ (fun c hc => hq c (by simp [hc]))]
  rw [cgo_jt _ _ (fun p hp => h p (List.mem_cons_of_mem _ hp))]
  simp

/-! ## The parts between brackets -/
theorem drop_inj {s : ByteArray} {i j : Nat} (hi : i ≤ s.size) (hj : j ≤ s.size) (h : (bs s).drop i = (bs s).drop j) : i = j := by
  have := congrArg List.length h
  rw [List.length_drop, List.length_drop, bs_len] at this
  omega
theorem mts_hit {s : ByteArray} {dbl : Bool} {i : Nat} {ms : List (Nat × Nat)} (h : Mts s dbl i ms) {A B C : List UInt8} (hm : mp dbl ((bs s).drop i) = some (A, B, C)) :
    ∃ f t n ms', ms = (f, t) :: ms' ∧ (bs s).drop f = A ∧ (bs s).drop t = B ∧ (bs s).drop n = C ∧ f ≤ s.size ∧ t ≤ s.size ∧ n ≤ s.size ∧ Mts s dbl n ms' := by
  cases h with
  | stop h => rw [List.drop_of_length_le (by rw [bs_len]; exact h)] at hm; simp [mp] at hm
  | miss hi h ht => rw [h] at hm; cases hm
  | hit hi h1 h2 h3 h4 h ht =>
    rw [h] at hm
    injection hm with hm
    injection hm with e1 hm
    injection hm with e2 e3
    exact ⟨_, _, _, _, rfl, e1, e2, e3, by omega, by omega, by omega, ht⟩
theorem mts_miss {s : ByteArray} {dbl : Bool} {i : Nat} {ms : List (Nat × Nat)} (h : Mts s dbl i ms) (hi : i < s.size) (hm : mp dbl ((bs s).drop i) = none) : Mts s dbl (i + 1) ms := by
  cases h with
  | stop h => omega
  | miss hi h ht => exact ht
  | hit hi h1 h2 h3 h4 h ht => rw [h] at hm; cases hm
theorem mts_stop {s : ByteArray} {dbl : Bool} {i : Nat} {ms : List (Nat × Nat)} (h : Mts s dbl i ms) (hi : s.size ≤ i) : ms = [] := by
  cases h with
  | stop h => rfl
  | miss hi h ht => omega
  | hit hi h1 h2 h3 h4 h ht => omega
/-- No match begins within u, if r follows. -/
def Hush (dbl : Bool) (u r : List UInt8) : Prop := ∀ u1 c u2, u = u1 ++ c :: u2 → mp dbl (c :: (u2 ++ r)) = none
theorem Hush.tail {dbl : Bool} {u1 u2 r : List UInt8} (h : Hush dbl (u1 ++ u2) r) : Hush dbl u2 r := fun a c b hab => h (u1 ++ a) c b (by rw [hab, List.append_assoc])
theorem mts_skip {s : ByteArray} {dbl : Bool} (r : List UInt8) : ∀ (u : List UInt8) (i : Nat) (ms : List (Nat × Nat)), Mts s dbl i ms → (bs s).drop i = u ++ r → Hush dbl u r → Mts s dbl (i + u.length) ms := by
  intro u
  induction u with
  | nil => intro i ms h _ _; exact h
  | cons c u ih =>
    intro i ms h hd hq
    have hi : i < s.size := by
      rcases Nat.lt_or_ge i s.size with hlt | hge
      · exact hlt
      · rw [List.drop_of_length_le (by rw [bs_len]; exact hge)] at hd; simp at hd
    have h1 := mts_miss h hi (by rw [hd]; exact hq [] c u rfl)
    have h2 : (bs s).drop (i + 1) = u ++ r := by rw [← List.drop_drop, hd]; rfl
    have h3 := ih (i + 1) ms h1 h2 (Hush.tail (u1 := [c]) hq)
    rw [List.length_cons, show i + (u.length + 1) = i + 1 + u.length by omega]
    exact h3
theorem ex_take {s : ByteArray} {a f : Nat} {p r : List UInt8} (hd : (bs s).drop a = p ++ r) (hf : (bs s).drop f = r) (ha : a ≤ s.size) (hs : f ≤ s.size) : f = a + p.length ∧ ex s a f = p := by
  have h1 := congrArg List.length hd
  have h2 := congrArg List.length hf
  rw [List.length_append, List.length_drop, bs_len] at h1
  rw [List.length_drop, bs_len] at h2
  have h3 : f = a + p.length := by omega
  refine ⟨h3, ?_⟩
  unfold ex
  rw [List.drop_take, hd, h3, show a + p.length - a = p.length by omega]
  simp
/-- Where the parts end: fin stands behind them, hd before them. -/
structure Cuts (dbl : Bool) (hd fin : List UInt8) : Prop where
  cut : ∀ r, mp dbl (fin ++ 44 :: (hd ++ r)) = some (44 :: (hd ++ r), hd ++ r, r)
  last : Hush dbl fin []
  cutQ : fin ≠ []
structure Piece (dbl : Bool) (hd fin p : List UInt8) : Prop where
  shape : ∃ m, p = hd ++ (m ++ fin) ∧ ∀ r, Hush dbl (hd ++ m) (fin ++ r)
theorem rsp_law {s : ByteArray} {dbl : Bool} {hd fin : List UInt8} (C : Cuts dbl hd fin) : ∀ (rest : List (List UInt8)) (p : List UInt8) (a i : Nat) (ms : List (Nat × Nat)) (pre post : List UInt8), (∀ q ∈ p :: rest, Piece dbl hd fin q) →
    a ≤ s.size → (bs s).drop a = jn (p :: rest) → p = pre ++ (post ++ fin) → (∀ r, Hush dbl post (fin ++ r)) → i = a + pre.length → Mts s dbl i ms → rsp s a ms = p :: rest := by
  intro rest
  induction rest with
  | nil =>
    intro p a i ms pre post hp ha hd' he hq hi h
    have hd2 : (bs s).drop a = pre ++ (post ++ fin) := by rw [hd']; simp [jn, he]
    have hd3 : (bs s).drop i = post ++ fin := by rw [hi, ← List.drop_drop, hd2]; simp
    have h1 := mts_skip fin post i ms h hd3 (by have := hq []; rwa [List.append_nil] at this)
    have hl := congrArg List.length hd3
    rw [List.length_drop, bs_len, List.length_append] at hl
    have h0 : 0 < fin.length := List.length_pos_iff.mpr C.cutQ
    have h1b := mts_skip [] fin (i + post.length) ms h1 (by rw [← List.drop_drop, hd3]; simp) C.last
    have h2 := mts_stop h1b (by omega)
    subst h2
    simp only [rsp]
    rw [ex_end, hd']; simp [jn]
  | cons q rest ih =>
    intro p a i ms pre post hp ha hd' he hq hi h
    obtain ⟨⟨m, hm, hmq⟩⟩ := hp q (by simp)
    have hj : jn (p :: q :: rest) = pre ++ (post ++ (fin ++ 44 :: (hd ++ (m ++ (fin ++ jt rest))))) := by
      show p ++ 44 :: jn (q :: rest) = _
      rw [jn_cons, he, hm]; simp
    have hd3 : (bs s).drop i = post ++ (fin ++ 44 :: (hd ++ (m ++ (fin ++ jt rest)))) := by rw [hi, ← List.drop_drop, hd', hj]; simp
    have h1 := mts_skip _ post i ms h hd3 (hq _)
    have hd4 : (bs s).drop (i + post.length) = fin ++ 44 :: (hd ++ (m ++ (fin ++ jt rest))) := by rw [← List.drop_drop, hd3]; simp
    obtain ⟨f, t, n, ms', rfl, hf, ht, hn, hf2, ht2, hn2, h2⟩ := mts_hit h1 (by rw [hd4]; exact C.cut _)
    simp only [rsp]
    have hjq : hd ++ (m ++ (fin ++ jt rest)) = jn (q :: rest) := by rw [jn_cons, hm]; simp
    have e1 := ex_take (p := p) (r := 44 :: (hd ++ (m ++ (fin ++ jt rest)))) (by rw [hd', hj, he]; simp) hf ha hf2
    have e2 := ex_take (s := s) (p := hd) ht hn ht2 hn2
    rw [e1.2, ih q t n ms' hd m (fun x hx => hp x (List.mem_cons_of_mem _ hx)) ht2 (by rw [ht, hjq]) hm (fun r => (hmq r).tail) e2.1 h2]
theorem parts_law {dbl : Bool} {hd fin : List UInt8} (C : Cuts dbl hd fin) {ls ps : List (List UInt8)} (hne : ls ≠ []) (hp : ∀ q ∈ ls, Piece dbl hd fin q) (h : Parts (tx (jn ls)) dbl ps) : ps = ls := by
  obtain ⟨ms, h1, rfl⟩ := h
  obtain ⟨p, rest, rfl⟩ := List.exists_cons_of_ne_nil hne
  obtain ⟨⟨m, hm, hmq⟩⟩ := hp p (by simp)
  exact rsp_law C rest p 0 0 ms [] (hd ++ m) hp (Nat.zero_le _) (by rw [bs_tx]; rfl) (by rw [hm]; simp) hmq rfl h1
theorem mp_other (dbl : Bool) (c : UInt8) (r : List UInt8) (h : c ≠ 41) : mp dbl (c :: r) = none := by
  have : ((c.toNat : Int) != 41) = true := by
    cases hb : ((c.toNat : Int) != 41) with
    | true => rfl
    | false => exact absurd (u8_eq (n := 41) (by decide) (by simpa using hb)) h
  simp [mp, this]
theorem cuts1 : Cuts false [40] [41] := by
  refine ⟨fun r => by simp [mp, sk, cls], ?_, by simp⟩
  intro u1 c u2 h
  cases u1 with
  | nil => injection h with h1 h2; subst h1; subst h2; simp [mp, sk]
  | cons a u1 => simp at h
theorem cuts2 : Cuts true [40, 40] [41, 41] := by
  refine ⟨fun r => by simp [mp, sk, cls], ?_, by simp⟩
  intro u1 c u2 h
  rcases u1 with _ | ⟨a, _ | ⟨b, u1⟩⟩
  · injection h with h1 h2; subst h1; subst h2; simp [mp, sk, cls]
  · injection h with h1 h2; injection h2 with h2 h3; subst h2; subst h3; simp [mp, sk]
  · simp at h
theorem quiet_plain {dbl : Bool} {u : List UInt8} (h : (41 : UInt8) ∉ u) (r : List UInt8) : Hush dbl u r := by
  rintro u1 c u2 rfl
  exact mp_other _ _ _ (fun hc => h (by simp [hc]))
theorem piece1 {b : List UInt8} (h : (41 : UInt8) ∉ b) : Piece false [40] [41] (br b) := ⟨b, rfl, fun _ => quiet_plain (by simp [h]) _⟩
def qd : List UInt8 → Prop
  | [] => True
  | c :: t => (c ≠ 41 ∨ t.head? = some 44) ∧ qd t
theorem qd_cat {b x : List UInt8} (h : (41 : UInt8) ∉ b) (hx : qd x) : qd (b ++ x) := by
  induction b with
  | nil => exact hx
  | cons c b ih =>
    exact ⟨.inl fun hc => h (by simp [hc]), ih fun hb => h (by simp [hb])⟩
theorem qd_tail {u2 : List UInt8} : ∀ u1, qd (u1 ++ u2) → qd u2 := by
  intro u1
  induction u1 with
  | nil => exact id
  | cons c u1 ih => exact fun h => ih h.2
theorem quiet_qd {u : List UInt8} (h : qd u) (r : List UInt8) : Hush true u r := by
  rintro u1 c u2 rfl
  obtain ⟨h1 | h1, _⟩ := qd_tail u1 h
  · exact mp_other _ _ _ h1
  · cases u2 with
    | nil => simp at h1
    | cons d u3 =>
      simp at h1
      subst h1
      by_cases hc : c = 41
      · subst hc; simp [mp, sk, cls]
      · exact mp_other _ _ _ hc
def RingP (p : List UInt8) : Prop := ∃ b, p = br b ∧ (41 : UInt8) ∉ b
theorem rings_shape {ls : List (List UInt8)} (hne : ls ≠ []) (h : ∀ p ∈ ls, RingP p) : ∃ m, jn ls = 40 :: (m ++ [41]) ∧ qd m := by
  induction ls with
  | nil => exact absurd rfl hne
  | cons p r ih =>
    obtain ⟨b, rfl, hb⟩ := h p (by simp)
    cases r with
    | nil => exact ⟨b, rfl, by have := qd_cat hb (x := []) trivial; rwa [List.append_nil] at this⟩
    | cons q r =>
      obtain ⟨m, hm, hq⟩ := ih (by simp) (fun x hx => h x (List.mem_cons_of_mem _ hx))
      refine ⟨b ++ 41 :: 44 :: 40 :: m, ?_, qd_cat hb ⟨.inr rfl, .inl (by decide), .inl (by decide), hq⟩⟩
      show br b ++ 44 :: jn (q :: r) = _
      rw [hm]; simp [br]
theorem piece2 {ls : List (List UInt8)} (hne : ls ≠ []) (h : ∀ p ∈ ls, RingP p) : Piece true [40, 40] [41, 41] (br (jn ls)) := by
  obtain ⟨m, hm, hq⟩ := rings_shape hne h
  refine ⟨m, by rw [hm]; simp [br], fun r => quiet_qd ?_ _⟩
  exact ⟨.inl (by decide), .inl (by decide), hq⟩

/-! ## Rings, polygons and so on -/
theorem jn_plain {ls : List (List UInt8)} {z : UInt8} (hz : z ≠ 44) (h : ∀ p ∈ ls, z ∉ p) : z ∉ jn ls := by
  induction ls with
  | nil => simp [jn]
  | cons p r ih =>
    cases r with
    | nil => simpa [jn] using h p (by simp)
    | cons q r =>
      have h1 := h p (by simp)
      have h2 := ih fun x hx => h x (List.mem_cons_of_mem _ hx)
      show z ∉ p ++ 44 :: jn (q :: r)
      simp [h1, h2, hz]
section
variable {NT : List UInt8 → Nat → Prop} (N : NumIO NT)
include N
theorem mem_law {l : List UInt8} {p : Nat × Nat} (h : MemT NT l p) : (∀ p', MemR NT l p' → p' = p) ∧ ¬ MemBad NT l := by
  obtain ⟨t, ht, rfl⟩ := h
  refine ⟨?_, ?_⟩
  · rintro p' ⟨t', h1, h2⟩
    rw [brok (pt_tidy N ht) h1] at h2
    exact (h2.2 p (by rw [bs_tx]; exact ht)).symm
  · rintro (h1 | ⟨t', h1, h2⟩)
    · exact brbad h1
    · rw [brok (pt_tidy N ht) h1] at h2
      exact h2 p (by rw [bs_tx]; exact ht)
theorem jn_pts {ls : List (List UInt8)} {ps : List (Nat × Nat)} (hne : ls ≠ []) (h : All2 (PtText NT) ls ps) : TidyL (jn ls) ∧ commaParts (jn ls) = ls := by
  have h1 : ∀ p ∈ ls, TidyL p ∧ ∀ c ∈ p, c ≠ 44 := fun p hp => by
    obtain ⟨x, hx⟩ := h.mem1 p hp
    exact ⟨pt_tidy N hx, fun c hc => (pt_plain N hx c hc).1⟩
  exact ⟨jn_tidy (fun p hp => (h1 p hp).1) hne, commaParts_jn hne h1⟩
theorem ring_law {l : List UInt8} {ps : List (Nat × Nat)} (h : RingT NT l ps) : (∀ ps', RingR NT l ps' → ps' = ps) ∧ ¬ RingBad NT l := by
  obtain ⟨ls, hne, ht, rfl⟩ := h
  obtain ⟨h1, h2⟩ := jn_pts N hne ht
  refine ⟨?_, ?_⟩
  · rintro ps' ⟨t, hb, ha⟩
    rw [brok h1 hb, bs_tx, h2] at ha
    exact ha.uniq ht fun p _ x y hx hy => (hx.2 y (by rw [bs_tx]; exact hy)).symm
  · rintro (hb | ⟨t, hb, p, hp, hbad⟩)
    · exact brbad hb
    · rw [brok h1 hb, bs_tx, h2] at hp
      obtain ⟨x, hx⟩ := ht.mem1 p hp
      exact hbad x (by rw [bs_tx]; exact hx)
theorem mem_plain {l : List UInt8} {p : Nat × Nat} (h : MemT NT l p) : TidyL l ∧ ∀ c ∈ l, c ≠ 44 := by
  obtain ⟨t, ht, rfl⟩ := h
  refine ⟨br_tidy _, fun c hc => ?_⟩
  rcases List.mem_cons.mp hc with rfl | hc
  · decide
  · rcases List.mem_append.mp hc with hc | hc
    · exact (pt_plain N ht c hc).1
    · rw [List.mem_singleton.mp hc]; decide
theorem mps_law {l : List UInt8} {ps : List (Nat × Nat)} (h : MpsT NT l ps) : (∀ ps', MpsR NT l ps' → ps' = ps) ∧ ¬ MpsBad NT l := by
  obtain ⟨ls, hne, ht, rfl⟩ := h
  have h0 : ∀ p ∈ ls, TidyL p ∧ ∀ c ∈ p, c ≠ 44 := fun p hp => by
    obtain ⟨x, hx⟩ := ht.mem1 p hp
    exact mem_plain N hx
  have h1 := jn_tidy (fun p hp => (h0 p hp).1) hne
  have h2 := commaParts_jn hne h0
  refine ⟨?_, ?_⟩
  · rintro ps' ⟨t, hb, ha⟩
    rw [brok h1 hb, bs_tx, h2] at ha
    exact ha.uniq ht fun p _ x y hx hy => (mem_law N hy).1 x hx
  · rintro (hb | ⟨t, hb, p, hp, hbad⟩)
    · exact brbad hb
    · rw [brok h1 hb, bs_tx, h2] at hp
      obtain ⟨x, hx⟩ := ht.mem1 p hp
      exact (mem_law N hx).2 hbad
theorem ring_p {l : List UInt8} {ps : List (Nat × Nat)} (h : RingT NT l ps) : RingP l := by
  obtain ⟨ls, _, ht, rfl⟩ := h
  refine ⟨_, rfl, jn_plain (by decide) fun p hp hc => ?_⟩
  obtain ⟨x, hx⟩ := ht.mem1 p hp
  exact (pt_plain N hx _ hc).2.2 rfl
theorem poly_law {l : List UInt8} {rs : List (List (Nat × Nat))} (h : PolyT NT l rs) : (∀ rs', PolyR NT l rs' → rs' = rs) ∧ ¬ PolyBad NT l := by
  obtain ⟨ls, hne, ht, rfl⟩ := h
  have hrp : ∀ p ∈ ls, RingP p := fun p hp => by obtain ⟨x, hx⟩ := ht.mem1 p hp; exact ring_p N hx
  have h1 : TidyL (jn ls) := jn_tidy (fun p hp => by obtain ⟨b, rfl, _⟩ := hrp p hp; exact br_tidy b) hne
  have h2 : ∀ q ∈ ls, Piece false [40] [41] q := fun q hq => by obtain ⟨b, rfl, hb⟩ := hrp q hq; exact piece1 hb
  refine ⟨?_, ?_⟩
  · rintro rs' ⟨t, ps, hb, hps, ha⟩
    rw [brok h1 hb] at hps
    rw [parts_law cuts1 hne h2 hps] at ha
    exact ha.uniq ht fun p _ x y hx hy => (ring_law N hy).1 x hx
  · rintro (hb | ⟨t, ps, hb, hps, p, hp, hbad⟩)
    · exact brbad hb
    · rw [brok h1 hb] at hps
      rw [parts_law cuts1 hne h2 hps] at hp
      obtain ⟨x, hx⟩ := ht.mem1 p hp
      exact (ring_law N hx).2 hbad
theorem mpoly_law {l : List UInt8} {xs : List (List (List (Nat × Nat)))} (h : MpolyT NT l xs) : (∀ xs', MpolyR NT l xs' → xs' = xs) ∧ ¬ MpolyBad NT l := by
  obtain ⟨ls, hne, ht, rfl⟩ := h
  have h0 : ∀ p ∈ ls, TidyL p ∧ Piece true [40, 40] [41, 41] p := fun p hp => by
    obtain ⟨x, rs, hr, ha, rfl⟩ := ht.mem1 p hp
    exact ⟨br_tidy _, piece2 hr fun q hq => by obtain ⟨y, hy⟩ := ha.mem1 q hq; exact ring_p N hy⟩
  have h1 : TidyL (jn ls) := jn_tidy (fun p hp => (h0 p hp).1) hne
  have h2 := fun q hq => (h0 q hq).2
  refine ⟨?_, ?_⟩
  · rintro rs' ⟨t, ps, hb, hps, ha⟩
    rw [brok h1 hb] at hps
    rw [parts_law cuts2 hne h2 hps] at ha
    exact ha.uniq ht fun p _ x y hx hy => (poly_law N hy).1 x hx
  · rintro (hb | ⟨t, ps, hb, hps, p, hp, hbad⟩)
    · exact brbad hb
    · rw [brok h1 hb] at hps
      rw [parts_law cuts2 hne h2 hps] at hp
      obtain ⟨x, hx⟩ := ht.mem1 p hp
      exact (poly_law N hx).2 hbad
end
end Go.Proofs.YtgmbjdoifkjdhaaGreatDoor
end
section
namespace Go.Proofs.YtgmbjdoifkjdhaaGreatDoor
open Go.RowKit

/-- From this depth on, these bytes part nothing and leave the depth as it is. -/
def Inert (k : Int) (p : List UInt8) : Prop := ∀ d, k ≤ d → ∀ t cur, gsp (p ++ t) d cur = gsp t d (cur ++ p)
theorem Inert.mono {k k' : Int} {p : List UInt8} (h : Inert k p) (hk : k ≤ k') : Inert k' p := fun d hd => h d (by omega)
theorem inert_nil (k : Int) : Inert k [] := fun d _ t cur => by simp
theorem Inert.cat {k : Int} {p q : List UInt8} (h : Inert k p) (h' : Inert k q) : Inert k (p ++ q) := fun d hd t cur => by
  rw [List.append_assoc, h d hd, h' d hd, List.append_assoc]
theorem u8_bne {c : UInt8} {n : Nat} (hn : n < 256) (h : c ≠ UInt8.ofNat n) : ((c.toNat : Int) == (n : Int)) = false := by
  cases hb : ((c.toNat : Int) == (n : Int)) with
  | false => rfl
  | true => exact absurd (u8_eq hn hb) h
theorem inert_one (k : Int) {c : UInt8} (h1 : c ≠ 40) (h2 : c ≠ 41) (h3 : c ≠ 44) : Inert k [c] := fun d _ t cur => by
  have e1 : ((c.toNat : Int) == 40) = false := u8_bne (n := 40) (by decide) h1
  have e2 : ((c.toNat : Int) == 41) = false := u8_bne (n := 41) (by decide) h2
  have e3 : ((c.toNat : Int) == 44) = false := u8_bne (n := 44) (by decide) h3
  simp [gsp, e1, e2, e3]
theorem inert_comma : Inert 1 [44] := fun d hd t cur => by
  have : (d == 0) = false := by simp; omega
  simp [gsp, this]
theorem inert_plain (k : Int) {p : List UInt8} (h : ∀ c ∈ p, c ≠ 44 ∧ c ≠ 40 ∧ c ≠ 41) : Inert k p := by
  induction p with
  | nil => exact inert_nil k
  | cons c p ih =>
    have hc := h c (by simp)
    exact Inert.cat (p := [c]) (inert_one k hc.2.1 hc.2.2 hc.1) (ih fun x hx => h x (List.mem_cons_of_mem _ hx))
theorem inert_br {p : List UInt8} (h : Inert 1 p) : Inert 0 (br p) := fun d hd t cur => by
  have h1 := h (d + 1) (by omega) (41 :: t) (cur ++ [40])
  have e : br p ++ t = 40 :: (p ++ 41 :: t) := by simp [br]
  rw [e]
  have e2 : gsp (40 :: (p ++ 41 :: t)) d cur = gsp (p ++ 41 :: t) (d + 1) (cur ++ [40]) := by simp [gsp]
  have e3 : ∀ c, gsp (41 :: t) (d + 1) c = gsp t d (c ++ [41]) := fun c => by simp [gsp, show d + 1 - 1 = d by omega]
  rw [e2, h1, e3]
  simp [br]
theorem inert_jn {ls : List (List UInt8)} (h : ∀ p ∈ ls, Inert 1 p) : Inert 1 (jn ls) := by
  induction ls with
  | nil => exact inert_nil 1
  | cons p r ih =>
    cases r with
    | nil => exact h p (by simp)
    | cons q r => exact (h p (by simp)).cat (Inert.cat (p := [44]) inert_comma (ih fun x hx => h x (List.mem_cons_of_mem _ hx)))
theorem gsp_jt : ∀ (r : List (List UInt8)) (cur : List UInt8), (∀ p ∈ r, Inert 0 p) → gsp (jt r) 0 cur = cur :: r := by
  intro r
  induction r with
  | nil => intro cur _; simp [jt, gsp]
  | cons q r ih =>
    intro cur h
    have e : gsp (jt (q :: r)) 0 cur = cur :: gsp (jn (q :: r)) 0 [] := by simp [jt, gsp]
    rw [e, jn_cons, h q (by simp) 0 (Int.le_refl _), ih _ fun x hx => h x (List.mem_cons_of_mem _ hx)]
    rfl
theorem gsp_jn {ls : List (List UInt8)} (hne : ls ≠ []) (h : ∀ p ∈ ls, Inert 0 p) : gsp (jn ls) 0 [] = ls := by
  obtain ⟨q, r, rfl⟩ := List.exists_cons_of_ne_nil hne
  rw [jn_cons, h q (by simp) 0 (Int.le_refl _), gsp_jt _ _ fun x hx => h x (List.mem_cons_of_mem _ hx)]
  rfl
theorem trims_law {ls : List (List UInt8)} {us : List ByteArray} (h : Trims ls us) (ht : ∀ p ∈ ls, TidyL p) : us = ls.map tx := by
  induction h with
  | nil => rfl
  | cons h1 _ ih => rw [List.map_cons, trim_tidy (ht _ (by simp)) h1, ih fun p hp => ht p (List.mem_cons_of_mem _ hp)]

section
variable {NT : List UInt8 → Nat → Prop} (N : NumIO NT)
include N
theorem inert_pt {l : List UInt8} {p : Nat × Nat} (h : PtText NT l p) : Inert 1 l := inert_plain 1 (pt_plain N h)
theorem inert_mem {l : List UInt8} {p : Nat × Nat} (h : MemT NT l p) : Inert 0 l := by
  obtain ⟨t, ht, rfl⟩ := h
  exact inert_br (inert_pt N ht)
theorem inert_ring {l : List UInt8} {ps : List (Nat × Nat)} (h : RingT NT l ps) : Inert 0 l := by
  obtain ⟨ls, _, ht, rfl⟩ := h
  exact inert_br (inert_jn fun p hp => by obtain ⟨x, hx⟩ := ht.mem1 p hp; exact inert_pt N hx)
theorem inert_mps {l : List UInt8} {ps : List (Nat × Nat)} (h : MpsT NT l ps) : Inert 0 l := by
  obtain ⟨ls, _, ht, rfl⟩ := h
  exact inert_br (inert_jn fun p hp => by obtain ⟨x, hx⟩ := ht.mem1 p hp; exact (inert_mem N hx).mono (by decide))
theorem inert_poly {l : List UInt8} {rs : List (List (Nat × Nat))} (h : PolyT NT l rs) : Inert 0 l := by
  obtain ⟨ls, _, ht, rfl⟩ := h
  exact inert_br (inert_jn fun p hp => by obtain ⟨x, hx⟩ := ht.mem1 p hp; exact (inert_ring N hx).mono (by decide))
theorem inert_mpoly {l : List UInt8} {xs : List (List (List (Nat × Nat)))} (h : MpolyT NT l xs) : Inert 0 l := by
  obtain ⟨ls, _, ht, rfl⟩ := h
  exact inert_br (inert_jn fun p hp => by obtain ⟨x, hx⟩ := ht.mem1 p hp; exact (inert_poly N hx).mono (by decide))
end

/-! ## Texts of geometries -/
def kPoint : List UInt8 := [80, 79, 73, 78, 84]
def kLine : List UInt8 := [76, 73, 78, 69, 83, 84, 82, 73, 78, 71]
def kPoly : List UInt8 := [80, 79, 76, 89, 71, 79, 78]
def kMulti : List UInt8 := [77, 85, 76, 84, 73, 80, 79, 73, 78, 84]
def kMline : List UInt8 := [77, 85, 76, 84, 73, 76, 73, 78, 69, 83, 84, 82, 73, 78, 71]
def kMpoly : List UInt8 := [77, 85, 76, 84, 73, 80, 79, 76, 89, 71, 79, 78]
def kColl : List UInt8 := [71, 69, 79, 77, 69, 84, 82, 89, 67, 79, 76, 76, 69, 67, 84, 73, 79, 78]
def emp : List UInt8 := [32, 69, 77, 80, 84, 89]
/-- What is written for a geometry. -/
inductive WT (NT : List UInt8 → Nat → Prop) : List UInt8 → Geom → Prop
  | pt {l : List UInt8} {p : Nat × Nat} (h : MemT NT l p) : WT NT (kPoint ++ l) (.pt p)
  | line0 : WT NT (kLine ++ emp) (.line [])
  | line {l : List UInt8} {ps : List (Nat × Nat)} (h : RingT NT l ps) : WT NT (kLine ++ l) (.line ps)
  | poly0 : WT NT (kPoly ++ emp) (.poly [])
  | poly {l : List UInt8} {rs : List (List (Nat × Nat))} (h : PolyT NT l rs) : WT NT (kPoly ++ l) (.poly rs)
  | mpt0 : WT NT (kMulti ++ emp) (.mpt [])
  | mpt {l : List UInt8} {ps : List (Nat × Nat)} (h : MpsT NT l ps) : WT NT (kMulti ++ l) (.mpt ps)
  | mline0 : WT NT (kMline ++ emp) (.mline [])
  | mline {l : List UInt8} {rs : List (List (Nat × Nat))} (h : PolyT NT l rs) : WT NT (kMline ++ l) (.mline rs)
  | mpoly0 : WT NT (kMpoly ++ emp) (.mpoly [])
  | mpoly {l : List UInt8} {xs : List (List (List (Nat × Nat)))} (h : MpolyT NT l xs) : WT NT (kMpoly ++ l) (.mpoly xs)
  | coll0 : WT NT (kColl ++ emp) (.coll [])
  | coll {ls : List (List UInt8)} {gs : List Geom} (hne : ls ≠ []) (hl : ls.length = gs.length) (h : ∀ (i : Nat) (l : List UInt8) (g : Geom), ls[i]? = some l → gs[i]? = some g → WT NT l g) : WT NT (kColl ++ br (jn ls)) (.coll gs)

theorem kw_tidy {a : UInt8} {k : List UInt8} {l : List UInt8} (ha : isSp a = false) (h : ∃ b, l = br b) : TidyL (a :: k ++ l) := by
  obtain ⟨b, rfl⟩ := h
  exact ⟨a, k ++ 40 :: b, 41, by simp [br], ha, by decide⟩
theorem emp_tidy {a : UInt8} {k : List UInt8} (ha : isSp a = false) : TidyL (a :: k ++ emp) := ⟨a, k ++ [32, 69, 77, 80, 84], 89, by simp [emp], ha, by decide⟩
theorem wt_tidy {NT : List UInt8 → Nat → Prop} {l : List UInt8} {g : Geom} (h : WT NT l g) : TidyL l := by
  cases h with
  | pt h => obtain ⟨t, _, rfl⟩ := h; exact kw_tidy (by decide) ⟨_, rfl⟩
  | line0 => exact emp_tidy (by decide)
  | line h => obtain ⟨t, _, _, rfl⟩ := h; exact kw_tidy (by decide) ⟨_, rfl⟩
  | poly0 => exact emp_tidy (by decide)
  | poly h => obtain ⟨t, _, _, rfl⟩ := h; exact kw_tidy (by decide) ⟨_, rfl⟩
  | mpt0 => exact emp_tidy (by decide)
  | mpt h => obtain ⟨t, _, _, rfl⟩ := h; exact kw_tidy (by decide) ⟨_, rfl⟩
  | mline0 => exact emp_tidy (by decide)
  | mline h => obtain ⟨t, _, _, rfl⟩ := h; exact kw_tidy (by decide) ⟨_, rfl⟩
  | mpoly0 => exact emp_tidy (by decide)
  | mpoly h => obtain ⟨t, _, _, rfl⟩ := h; exact kw_tidy (by decide) ⟨_, rfl⟩
  | coll0 => exact emp_tidy (by decide)
  | coll _ _ _ => exact kw_tidy (by decide) ⟨_, rfl⟩
theorem wt_inert {NT : List UInt8 → Nat → Prop} (N : NumIO NT) {l : List UInt8} {g : Geom} (h : WT NT l g) : Inert 0 l := by
  have kw : ∀ k : List UInt8, (∀ c ∈ k, c ≠ 44 ∧ c ≠ 40 ∧ c ≠ 41) → Inert 0 k := fun k hk => inert_plain 0 hk
  induction h with
  | pt h => exact (kw _ (by decide)).cat (inert_mem N h)
  | line0 => exact kw _ (by decide)
  | line h => exact (kw _ (by decide)).cat (inert_ring N h)
  | poly0 => exact kw _ (by decide)
  | poly h => exact (kw _ (by decide)).cat (inert_poly N h)
  | mpt0 => exact kw _ (by decide)
  | mpt h => exact (kw _ (by decide)).cat (inert_mps N h)
  | mline0 => exact kw _ (by decide)
  | mline h => exact (kw _ (by decide)).cat (inert_poly N h)
  | mpoly0 => exact kw _ (by decide)
  | mpoly h => exact (kw _ (by decide)).cat (inert_mpoly N h)
  | coll0 => exact kw _ (by decide)
  | @coll ls gs _ hl _ ih =>
    refine (kw _ (by decide)).cat (inert_br (inert_jn fun p hp => ?_))
    obtain ⟨i, hi, rfl⟩ := List.mem_iff_getElem.mp hp
    exact (ih i ls[i] gs[i] (List.getElem?_eq_getElem hi) (List.getElem?_eq_getElem (by omega))).mono (by decide)

theorem pre_no {l : List UInt8} {lit : ByteArray} {n : Nat} (h : Pre (tx l) lit n) (j : Nat) (c d : UInt8) (hj : j < n) (hl : l[j]? = some c) (hd : (bs lit)[j]? = some d) (hc : c.toNat < 97) (hne : c.toNat ≠ d.toNat) : False := by
  have h1 : j < lit.size := by have := h.2.1; omega
  have h2 : j < (tx l).size := by have := h.1; omega
  have h3 := h.2.2 j h1 hj
  have e1 : (tx l)[j] = c := getElem_of_bs h2 (by rw [bs_tx]; exact hl)
  have e2 : lit[j] = d := getElem_of_bs h1 hd
  unfold upI at h3
  rw [dif_pos h2, e1, e2, if_neg (by omega)] at h3
  omega
theorem pre_yes {K r : List UInt8} {lit : ByteArray} (hn : K.length ≤ lit.size) (he : (bs lit).take K.length = K) (hs : ∀ c ∈ K, c.toNat < 97) : Pre (tx (K ++ r)) lit K.length := by
  refine ⟨by rw [tx_size, List.length_append]; omega, hn, fun j hj hjn => ?_⟩
  have h2 : j < (tx (K ++ r)).size := by rw [tx_size, List.length_append]; omega
  have h1 : K[j]? = some K[j] := List.getElem?_eq_getElem hjn
  have e1 : (tx (K ++ r))[j] = K[j] := getElem_of_bs h2 (by rw [bs_tx, List.getElem?_append_left hjn, h1])
  have e2 : lit[j] = K[j] := by
    refine getElem_of_bs hj ?_
    rw [← h1]
    conv => rhs; rw [← he]
    rw [List.getElem?_take_of_lt hjn]
  have hb := hs _ (List.getElem_mem hjn)
  unfold upI
  rw [dif_pos h2, e1, e2, if_neg (by omega)]
theorem ext_kw (K r : List UInt8) : bs ((tx (K ++ r)).extract K.length (tx (K ++ r)).size) = r := by
  rw [bs_extract, bs_tx, tx_size, List.take_of_length_le (Nat.le_refl _)]
  simp
theorem emp_no {K r : List UInt8} {lit : ByteArray} (hd : (bs lit)[K.length]? = some 32) (h : Emp (tx (K ++ 40 :: r)) lit) : False := by
  have h1 : K.length < lit.size := by rw [← bs_len]; exact (List.getElem?_eq_some_iff.mp hd).1
  have h2 : K.length < (tx (K ++ 40 :: r)).size := by rw [tx_size]; simp
  have h3 := h K.length h2 h1
  have e1 : (tx (K ++ 40 :: r))[K.length] = 40 := getElem_of_bs h2 (by rw [bs_tx, List.getElem?_append_right (Nat.le_refl _)]; simp)
  have e2 : lit[K.length] = 32 := getElem_of_bs h1 hd
  rw [e1, e2] at h3
  rcases h3 with h3 | ⟨h3, _⟩
  · exact absurd h3 (by decide)
  · exact absurd h3 (by decide)
theorem emp_self (s : ByteArray) : Emp s s := fun _ _ _ => .inl rfl
theorem rd_some {X : Type} {R : List UInt8 → List X → Prop} {K r : List UInt8} {lit : ByteArray} {ps : List X} (hd : (bs lit)[K.length]? = some 32) (h : RdR R (tx (K ++ br r)) lit K.length ps) : R (br r) ps := by
  rcases h.2 with ⟨_, he⟩ | h2
  · exact (emp_no hd he).elim
  · rwa [ext_kw] at h2
theorem rd_bad {Q : List UInt8 → Prop} {K r : List UInt8} {lit : ByteArray} (h : RdBad Q (tx (K ++ br r)) lit K.length) : Q (br r) := by
  have := h.2
  rwa [ext_kw] at this
theorem kw_all (r : List UInt8) : (∀ l, l = kPoint ++ r → Pre (tx l) litPoint 5 ∧ ¬ Pre (tx l) litLine 10 ∧ ¬ Pre (tx l) litPoly 7 ∧ ¬ Pre (tx l) litMulti 10 ∧ ¬ Pre (tx l) litMline 15 ∧ ¬ Pre (tx l) litMpoly 12 ∧ ¬ Pre (tx l) litColl 18) ∧
    (∀ l, l = kLine ++ r → ¬ Pre (tx l) litPoint 5 ∧ Pre (tx l) litLine 10 ∧ ¬ Pre (tx l) litPoly 7 ∧ ¬ Pre (tx l) litMulti 10 ∧ ¬ Pre (tx l) litMline 15 ∧ ¬ Pre (tx l) litMpoly 12 ∧ ¬ Pre (tx l) litColl 18) ∧
    (∀ l, l = kPoly ++ r → ¬ Pre (tx l) litPoint 5 ∧ ¬ Pre (tx l) litLine 10 ∧ Pre (tx l) litPoly 7 ∧ ¬ Pre (tx l) litMulti 10 ∧ ¬ Pre (tx l) litMline 15 ∧ ¬ Pre (tx l) litMpoly 12 ∧ ¬ Pre (tx l) litColl 18) ∧
    (∀ l, l = kMulti ++ r → ¬ Pre (tx l) litPoint 5 ∧ ¬ Pre (tx l) litLine 10 ∧ ¬ Pre (tx l) litPoly 7 ∧ Pre (tx l) litMulti 10 ∧ ¬ Pre (tx l) litMline 15 ∧ ¬ Pre (tx l) litMpoly 12 ∧ ¬ Pre (tx l) litColl 18) ∧
    (∀ l, l = kMline ++ r → ¬ Pre (tx l) litPoint 5 ∧ ¬ Pre (tx l) litLine 10 ∧ ¬ Pre (tx l) litPoly 7 ∧ ¬ Pre (tx l) litMulti 10 ∧ Pre (tx l) litMline 15 ∧ ¬ Pre (tx l) litMpoly 12 ∧ ¬ Pre (tx l) litColl 18) ∧
    (∀ l, l = kMpoly ++ r → ¬ Pre (tx l) litPoint 5 ∧ ¬ Pre (tx l) litLine 10 ∧ ¬ Pre (tx l) litPoly 7 ∧ ¬ Pre (tx l) litMulti 10 ∧ ¬ Pre (tx l) litMline 15 ∧ Pre (tx l) litMpoly 12 ∧ ¬ Pre (tx l) litColl 18) ∧
    (∀ l, l = kColl ++ r → ¬ Pre (tx l) litPoint 5 ∧ ¬ Pre (tx l) litLine 10 ∧ ¬ Pre (tx l) litPoly 7 ∧ ¬ Pre (tx l) litMulti 10 ∧ ¬ Pre (tx l) litMline 15 ∧ ¬ Pre (tx l) litMpoly 12 ∧ Pre (tx l) litColl 18) := by
  refine ⟨?_, ?_, ?_, ?_, ?_, ?_, ?_⟩
  · rintro l rfl
    exact ⟨pre_yes (K := kPoint) (by decide) (by decide) (by decide), fun h => pre_no h 0 80 76 (by decide) rfl rfl (by decide) (by decide), fun h => pre_no h 2 73 76 (by decide) rfl rfl (by decide) (by decide), fun h => pre_no h 0 80 77 (by decide) rfl rfl (by decide) (by decide),
      fun h => pre_no h 0 80 77 (by decide) rfl rfl (by decide) (by decide), fun h => pre_no h 0 80 77 (by decide) rfl rfl (by decide) (by decide), fun h => pre_no h 0 80 71 (by decide) rfl rfl (by decide) (by decide)⟩
  · rintro l rfl
    exact ⟨fun h => pre_no h 0 76 80 (by decide) rfl rfl (by decide) (by decide), pre_yes (K := kLine) (by decide) (by decide) (by decide), fun h => pre_no h 0 76 80 (by decide) rfl rfl (by decide) (by decide), fun h => pre_no h 0 76 77 (by decide) rfl rfl (by decide) (by decide),
      fun h => pre_no h 0 76 77 (by decide) rfl rfl (by decide) (by decide), fun h => pre_no h 0 76 77 (by decide) rfl rfl (by decide) (by decide), fun h => pre_no h 0 76 71 (by decide) rfl rfl (by decide) (by decide)⟩
  · rintro l rfl
    exact ⟨fun h => pre_no h 2 76 73 (by decide) rfl rfl (by decide) (by decide), fun h => pre_no h 0 80 76 (by decide) rfl rfl (by decide) (by decide), pre_yes (K := kPoly) (by decide) (by decide) (by decide), fun h => pre_no h 0 80 77 (by decide) rfl rfl (by decide) (by decide),
      fun h => pre_no h 0 80 77 (by decide) rfl rfl (by decide) (by decide), fun h => pre_no h 0 80 77 (by decide) rfl rfl (by decide) (by decide), fun h => pre_no h 0 80 71 (by decide) rfl rfl (by decide) (by decide)⟩
  · rintro l rfl
    exact ⟨fun h => pre_no h 0 77 80 (by decide) rfl rfl (by decide) (by decide), fun h => pre_no h 0 77 76 (by decide) rfl rfl (by decide) (by decide), fun h => pre_no h 0 77 80 (by decide) rfl rfl (by decide) (by decide), pre_yes (K := kMulti) (by decide) (by decide) (by decide),
      fun h => pre_no h 5 80 76 (by decide) rfl rfl (by decide) (by decide), fun h => pre_no h 7 73 76 (by decide) rfl rfl (by decide) (by decide), fun h => pre_no h 0 77 71 (by decide) rfl rfl (by decide) (by decide)⟩
  · rintro l rfl
    exact ⟨fun h => pre_no h 0 77 80 (by decide) rfl rfl (by decide) (by decide), fun h => pre_no h 0 77 76 (by decide) rfl rfl (by decide) (by decide), fun h => pre_no h 0 77 80 (by decide) rfl rfl (by decide) (by decide), fun h => pre_no h 5 76 80 (by decide) rfl rfl (by decide) (by decide),
      pre_yes (K := kMline) (by decide) (by decide) (by decide), fun h => pre_no h 5 76 80 (by decide) rfl rfl (by decide) (by decide), fun h => pre_no h 0 77 71 (by decide) rfl rfl (by decide) (by decide)⟩
  · rintro l rfl
    exact ⟨fun h => pre_no h 0 77 80 (by decide) rfl rfl (by decide) (by decide), fun h => pre_no h 0 77 76 (by decide) rfl rfl (by decide) (by decide), fun h => pre_no h 0 77 80 (by decide) rfl rfl (by decide) (by decide), fun h => pre_no h 7 76 73 (by decide) rfl rfl (by decide) (by decide),
      fun h => pre_no h 5 80 76 (by decide) rfl rfl (by decide) (by decide), pre_yes (K := kMpoly) (by decide) (by decide) (by decide), fun h => pre_no h 0 77 71 (by decide) rfl rfl (by decide) (by decide)⟩
  · rintro l rfl
    exact ⟨fun h => pre_no h 0 71 80 (by decide) rfl rfl (by decide) (by decide), fun h => pre_no h 0 71 76 (by decide) rfl rfl (by decide) (by decide), fun h => pre_no h 0 71 80 (by decide) rfl rfl (by decide) (by decide), fun h => pre_no h 0 71 77 (by decide) rfl rfl (by decide) (by decide),
      fun h => pre_no h 0 71 77 (by decide) rfl rfl (by decide) (by decide), fun h => pre_no h 0 71 77 (by decide) rfl rfl (by decide) (by decide), pre_yes (K := kColl) (by decide) (by decide) (by decide)⟩

/-- One keyword's two laws: what stands behind it, and EMPTY. -/
theorem rd_none {X : Type} {R : List UInt8 → List X → Prop} {l : List UInt8} {lit : ByteArray} {n : Nat} {ps : List X} (hl : tx l = lit) (h : RdR R (tx l) lit n ps) : ps = [] := h.1 hl
theorem text_law {NT : List UInt8 → Nat → Prop} (N : NumIO NT) {l : List UInt8} {g : Geom} (h : WT NT l g) : (∀ g', UnR NT (tx l) g' → g' = g) ∧ ¬ UnBad NT (tx l) := by
  induction h with
  | @pt l p h =>
    have ht := wt_tidy (WT.pt h)
    obtain ⟨k1, k2, k3, k4, k5, k6, k7⟩ := (kw_all l).1 _ rfl
    have hl := mem_law N h
    refine ⟨fun g' hr => ?_, fun hr => ?_⟩
    · cases hr with
      | pt hs hp h => rw [trim_tidy ht hs] at h; rw [show (5 : Nat) = kPoint.length from rfl, ext_kw] at h; rw [hl.1 _ h]
      | line hs hp h => rw [trim_tidy ht hs] at hp; contradiction
      | poly hs hp h => rw [trim_tidy ht hs] at hp; contradiction
      | mpt hs hp h => rw [trim_tidy ht hs] at hp; contradiction
      | mline hs hp h => rw [trim_tidy ht hs] at hp; contradiction
      | mpoly hs hp h => rw [trim_tidy ht hs] at hp; contradiction
      | empty hs hp h => rw [trim_tidy ht hs] at hp; contradiction
      | coll hs hp hne hb hu hl h => rw [trim_tidy ht hs] at hp; contradiction
    · cases hr with
      | none hs h1 h2 h3 h4 h5 h6 h7 => rw [trim_tidy ht hs] at h1; contradiction
      | pt hs hp h => rw [trim_tidy ht hs] at h; rw [show (5 : Nat) = kPoint.length from rfl, ext_kw] at h; exact hl.2 h
      | line hs hp h => rw [trim_tidy ht hs] at hp; contradiction
      | poly hs hp h => rw [trim_tidy ht hs] at hp; contradiction
      | mpt hs hp h => rw [trim_tidy ht hs] at hp; contradiction
      | mline hs hp h => rw [trim_tidy ht hs] at hp; contradiction
      | mpoly hs hp h => rw [trim_tidy ht hs] at hp; contradiction
      | short hs hp h => rw [trim_tidy ht hs] at hp; contradiction
      | brackets hs hp hne h => rw [trim_tidy ht hs] at hp; contradiction
      | member hs hp hne hb hu hm h => rw [trim_tidy ht hs] at hp; contradiction
  | line0 =>
    have ht := wt_tidy (WT.line0 (NT := NT))
    have hlit : tx (kLine ++ emp) = litLine := rfl
    obtain ⟨k1, k2, k3, k4, k5, k6, k7⟩ := (kw_all emp).2.1 _ rfl
    refine ⟨fun g' hr => ?_, fun hr => ?_⟩
    · cases hr with
      | line hs hp h => rw [trim_tidy ht hs] at h; rw [rd_none hlit h]
      | pt hs hp h => rw [trim_tidy ht hs] at hp; contradiction
      | poly hs hp h => rw [trim_tidy ht hs] at hp; contradiction
      | mpt hs hp h => rw [trim_tidy ht hs] at hp; contradiction
      | mline hs hp h => rw [trim_tidy ht hs] at hp; contradiction
      | mpoly hs hp h => rw [trim_tidy ht hs] at hp; contradiction
      | empty hs hp h => rw [trim_tidy ht hs] at hp; contradiction
      | coll hs hp hne hb hu hl h => rw [trim_tidy ht hs] at hp; contradiction
    · cases hr with
      | none hs h1 h2 h3 h4 h5 h6 h7 => rw [trim_tidy ht hs] at h2; contradiction
      | line hs hp h => rw [trim_tidy ht hs] at h; exact h.1 hlit
      | pt hs hp h => rw [trim_tidy ht hs] at hp; contradiction
      | poly hs hp h => rw [trim_tidy ht hs] at hp; contradiction
      | mpt hs hp h => rw [trim_tidy ht hs] at hp; contradiction
      | mline hs hp h => rw [trim_tidy ht hs] at hp; contradiction
      | mpoly hs hp h => rw [trim_tidy ht hs] at hp; contradiction
      | short hs hp h => rw [trim_tidy ht hs] at hp; contradiction
      | brackets hs hp hne h => rw [trim_tidy ht hs] at hp; contradiction
      | member hs hp hne hb hu hm h => rw [trim_tidy ht hs] at hp; contradiction
  | @line l ps h =>
    have ht := wt_tidy (WT.line h)
    obtain ⟨k1, k2, k3, k4, k5, k6, k7⟩ := (kw_all l).2.1 _ rfl
    have hl := ring_law N h
    obtain ⟨ls, _, _, rfl⟩ := h
    refine ⟨fun g' hr => ?_, fun hr => ?_⟩
    · cases hr with
      | line hs hp h => rw [trim_tidy ht hs] at h; rw [hl.1 _ (rd_some (K := kLine) rfl h)]
      | pt hs hp h => rw [trim_tidy ht hs] at hp; contradiction
      | poly hs hp h => rw [trim_tidy ht hs] at hp; contradiction
      | mpt hs hp h => rw [trim_tidy ht hs] at hp; contradiction
      | mline hs hp h => rw [trim_tidy ht hs] at hp; contradiction
      | mpoly hs hp h => rw [trim_tidy ht hs] at hp; contradiction
      | empty hs hp h => rw [trim_tidy ht hs] at hp; contradiction
      | coll hs hp hne hb hu hl h => rw [trim_tidy ht hs] at hp; contradiction
    · cases hr with
      | none hs h1 h2 h3 h4 h5 h6 h7 => rw [trim_tidy ht hs] at h2; contradiction
      | line hs hp h => rw [trim_tidy ht hs] at h; exact hl.2 (rd_bad (K := kLine) h)
      | pt hs hp h => rw [trim_tidy ht hs] at hp; contradiction
      | poly hs hp h => rw [trim_tidy ht hs] at hp; contradiction
      | mpt hs hp h => rw [trim_tidy ht hs] at hp; contradiction
      | mline hs hp h => rw [trim_tidy ht hs] at hp; contradiction
      | mpoly hs hp h => rw [trim_tidy ht hs] at hp; contradiction
      | short hs hp h => rw [trim_tidy ht hs] at hp; contradiction
      | brackets hs hp hne h => rw [trim_tidy ht hs] at hp; contradiction
      | member hs hp hne hb hu hm h => rw [trim_tidy ht hs] at hp; contradiction
  | poly0 =>
    have ht := wt_tidy (WT.poly0 (NT := NT))
    have hlit : tx (kPoly ++ emp) = litPoly := rfl
    obtain ⟨k1, k2, k3, k4, k5, k6, k7⟩ := (kw_all emp).2.2.1 _ rfl
    refine ⟨fun g' hr => ?_, fun hr => ?_⟩
    · cases hr with
      | poly hs hp h => rw [trim_tidy ht hs] at h; rw [rd_none hlit h]
      | pt hs hp h => rw [trim_tidy ht hs] at hp; contradiction
      | line hs hp h => rw [trim_tidy ht hs] at hp; contradiction
      | mpt hs hp h => rw [trim_tidy ht hs] at hp; contradiction
      | mline hs hp h => rw [trim_tidy ht hs] at hp; contradiction
      | mpoly hs hp h => rw [trim_tidy ht hs] at hp; contradiction
      | empty hs hp h => rw [trim_tidy ht hs] at hp; contradiction
      | coll hs hp hne hb hu hl h => rw [trim_tidy ht hs] at hp; contradiction
    · cases hr with
      | none hs h1 h2 h3 h4 h5 h6 h7 => rw [trim_tidy ht hs] at h3; contradiction
      | poly hs hp h => rw [trim_tidy ht hs] at h; exact h.1 hlit
      | pt hs hp h => rw [trim_tidy ht hs] at hp; contradiction
      | line hs hp h => rw [trim_tidy ht hs] at hp; contradiction
      | mpt hs hp h => rw [trim_tidy ht hs] at hp; contradiction
      | mline hs hp h => rw [trim_tidy ht hs] at hp; contradiction
      | mpoly hs hp h => rw [trim_tidy ht hs] at hp; contradiction
      | short hs hp h => rw [trim_tidy ht hs] at hp; contradiction
      | brackets hs hp hne h => rw [trim_tidy ht hs] at hp; contradiction
      | member hs hp hne hb hu hm h => rw [trim_tidy ht hs] at hp; contradiction
  | @poly l ps h =>
    have ht := wt_tidy (WT.poly h)
    obtain ⟨k1, k2, k3, k4, k5, k6, k7⟩ := (kw_all l).2.2.1 _ rfl
    have hl := poly_law N h
    obtain ⟨ls, _, _, rfl⟩ := h
    refine ⟨fun g' hr => ?_, fun hr => ?_⟩
    · cases hr with
      | poly hs hp h => rw [trim_tidy ht hs] at h; rw [hl.1 _ (rd_some (K := kPoly) rfl h)]
      | pt hs hp h => rw [trim_tidy ht hs] at hp; contradiction
      | line hs hp h => rw [trim_tidy ht hs] at hp; contradiction
      | mpt hs hp h => rw [trim_tidy ht hs] at hp; contradiction
      | mline hs hp h => rw [trim_tidy ht hs] at hp; contradiction
      | mpoly hs hp h => rw [trim_tidy ht hs] at hp; contradiction
      | empty hs hp h => rw [trim_tidy ht hs] at hp; contradiction
      | coll hs hp hne hb hu hl h => rw [trim_tidy ht hs] at hp; contradiction
    · cases hr with
      | none hs h1 h2 h3 h4 h5 h6 h7 => rw [trim_tidy ht hs] at h3; contradiction
      | poly hs hp h => rw [trim_tidy ht hs] at h; exact hl.2 (rd_bad (K := kPoly) h)
      | pt hs hp h => rw [trim_tidy ht hs] at hp; contradiction
      | line hs hp h => rw [trim_tidy ht hs] at hp; contradiction
      | mpt hs hp h => rw [trim_tidy ht hs] at hp; contradiction
      | mline hs hp h => rw [trim_tidy ht hs] at hp; contradiction
      | mpoly hs hp h => rw [trim_tidy ht hs] at hp; contradiction
      | short hs hp h => rw [trim_tidy ht hs] at hp; contradiction
      | brackets hs hp hne h => rw [trim_tidy ht hs] at hp; contradiction
      | member hs hp hne hb hu hm h => rw [trim_tidy ht hs] at hp; contradiction
  | mpt0 =>
    have ht := wt_tidy (WT.mpt0 (NT := NT))
    have hlit : tx (kMulti ++ emp) = litMulti := rfl
    obtain ⟨k1, k2, k3, k4, k5, k6, k7⟩ := (kw_all emp).2.2.2.1 _ rfl
    refine ⟨fun g' hr => ?_, fun hr => ?_⟩
    · cases hr with
      | mpt hs hp h => rw [trim_tidy ht hs] at h; rw [rd_none hlit h]
      | pt hs hp h => rw [trim_tidy ht hs] at hp; contradiction
      | line hs hp h => rw [trim_tidy ht hs] at hp; contradiction
      | poly hs hp h => rw [trim_tidy ht hs] at hp; contradiction
      | mline hs hp h => rw [trim_tidy ht hs] at hp; contradiction
      | mpoly hs hp h => rw [trim_tidy ht hs] at hp; contradiction
      | empty hs hp h => rw [trim_tidy ht hs] at hp; contradiction
      | coll hs hp hne hb hu hl h => rw [trim_tidy ht hs] at hp; contradiction
    · cases hr with
      | none hs h1 h2 h3 h4 h5 h6 h7 => rw [trim_tidy ht hs] at h4; contradiction
      | mpt hs hp h => rw [trim_tidy ht hs] at h; exact h.1 hlit
      | pt hs hp h => rw [trim_tidy ht hs] at hp; contradiction
      | line hs hp h => rw [trim_tidy ht hs] at hp; contradiction
      | poly hs hp h => rw [trim_tidy ht hs] at hp; contradiction
      | mline hs hp h => rw [trim_tidy ht hs] at hp; contradiction
      | mpoly hs hp h => rw [trim_tidy ht hs] at hp; contradiction
      | short hs hp h => rw [trim_tidy ht hs] at hp; contradiction
      | brackets hs hp hne h => rw [trim_tidy ht hs] at hp; contradiction
      | member hs hp hne hb hu hm h => rw [trim_tidy ht hs] at hp; contradiction
  | @mpt l ps h =>
    have ht := wt_tidy (WT.mpt h)
    obtain ⟨k1, k2, k3, k4, k5, k6, k7⟩ := (kw_all l).2.2.2.1 _ rfl
    have hl := mps_law N h
    obtain ⟨ls, _, _, rfl⟩ := h
    refine ⟨fun g' hr => ?_, fun hr => ?_⟩
    · cases hr with
      | mpt hs hp h => rw [trim_tidy ht hs] at h; rw [hl.1 _ (rd_some (K := kMulti) rfl h)]
      | pt hs hp h => rw [trim_tidy ht hs] at hp; contradiction
      | line hs hp h => rw [trim_tidy ht hs] at hp; contradiction
      | poly hs hp h => rw [trim_tidy ht hs] at hp; contradiction
      | mline hs hp h => rw [trim_tidy ht hs] at hp; contradiction
      | mpoly hs hp h => rw [trim_tidy ht hs] at hp; contradiction
      | empty hs hp h => rw [trim_tidy ht hs] at hp; contradiction
      | coll hs hp hne hb hu hl h => rw [trim_tidy ht hs] at hp; contradiction
    · cases hr with
      | none hs h1 h2 h3 h4 h5 h6 h7 => rw [trim_tidy ht hs] at h4; contradiction
      | mpt hs hp h => rw [trim_tidy ht hs] at h; exact hl.2 (rd_bad (K := kMulti) h)
      | pt hs hp h => rw [trim_tidy ht hs] at hp; contradiction
      | line hs hp h => rw [trim_tidy ht hs] at hp; contradiction
      | poly hs hp h => rw [trim_tidy ht hs] at hp; contradiction
      | mline hs hp h => rw [trim_tidy ht hs] at hp; contradiction
      | mpoly hs hp h => rw [trim_tidy ht hs] at hp; contradiction
      | short hs hp h => rw [trim_tidy ht hs] at hp; contradiction
      | brackets hs hp hne h => rw [trim_tidy ht hs] at hp; contradiction
      | member hs hp hne hb hu hm h => rw [trim_tidy ht hs] at hp; contradiction
  | mline0 =>
    have ht := wt_tidy (WT.mline0 (NT := NT))
    have hlit : tx (kMline ++ emp) = litMline := rfl
    obtain ⟨k1, k2, k3, k4, k5, k6, k7⟩ := (kw_all emp).2.2.2.2.1 _ rfl
    refine ⟨fun g' hr => ?_, fun hr => ?_⟩
    · cases hr with
      | mline hs hp h => rw [trim_tidy ht hs] at h; rw [rd_none hlit h]
      | pt hs hp h => rw [trim_tidy ht hs] at hp; contradiction
      | line hs hp h => rw [trim_tidy ht hs] at hp; contradiction
      | poly hs hp h => rw [trim_tidy ht hs] at hp; contradiction
      | mpt hs hp h => rw [trim_tidy ht hs] at hp; contradiction
      | mpoly hs hp h => rw [trim_tidy ht hs] at hp; contradiction
      | empty hs hp h => rw [trim_tidy ht hs] at hp; contradiction
      | coll hs hp hne hb hu hl h => rw [trim_tidy ht hs] at hp; contradiction
    · cases hr with
      | none hs h1 h2 h3 h4 h5 h6 h7 => rw [trim_tidy ht hs] at h5; contradiction
      | mline hs hp h => rw [trim_tidy ht hs] at h; exact h.1 hlit
      | pt hs hp h => rw [trim_tidy ht hs] at hp; contradiction
      | line hs hp h => rw [trim_tidy ht hs] at hp; contradiction
      | poly hs hp h => rw [trim_tidy ht hs] at hp; contradiction
      | mpt hs hp h => rw [trim_tidy ht hs] at hp; contradiction
      | mpoly hs hp h => rw [trim_tidy ht hs] at hp; contradiction
      | short hs hp h => rw [trim_tidy ht hs] at hp; contradiction
      | brackets hs hp hne h => rw [trim_tidy ht hs] at hp; contradiction
      | member hs hp hne hb hu hm h => rw [trim_tidy ht hs] at hp; contradiction
  | @mline l ps h =>
    have ht := wt_tidy (WT.mline h)
    obtain ⟨k1, k2, k3, k4, k5, k6, k7⟩ := (kw_all l).2.2.2.2.1 _ rfl
    have hl := poly_law N h
    obtain ⟨ls, _, _, rfl⟩ := h
    refine ⟨fun g' hr => ?_, fun hr => ?_⟩
    · cases hr with
      | mline hs hp h => rw [trim_tidy ht hs] at h; rw [hl.1 _ (rd_some (K := kMline) rfl h)]
      | pt hs hp h => rw [trim_tidy ht hs] at hp; contradiction
      | line hs hp h => rw [trim_tidy ht hs] at hp; contradiction
      | poly hs hp h => rw [trim_tidy ht hs] at hp; contradiction
      | mpt hs hp h => rw [trim_tidy ht hs] at hp; contradiction
      | mpoly hs hp h => rw [trim_tidy ht hs] at hp; contradiction
      | empty hs hp h => rw [trim_tidy ht hs] at hp; contradiction
      | coll hs hp hne hb hu hl h => rw [trim_tidy ht hs] at hp; contradiction
    · cases hr with
      | none hs h1 h2 h3 h4 h5 h6 h7 => rw [trim_tidy ht hs] at h5; contradiction
      | mline hs hp h => rw [trim_tidy ht hs] at h; exact hl.2 (rd_bad (K := kMline) h)
      | pt hs hp h => rw [trim_tidy ht hs] at hp; contradiction
      | line hs hp h => rw [trim_tidy ht hs] at hp; contradiction
      | poly hs hp h => rw [trim_tidy ht hs] at hp; contradiction
      | mpt hs hp h => rw [trim_tidy ht hs] at hp; contradiction
      | mpoly hs hp h => rw [trim_tidy ht hs] at hp; contradiction
      | short hs hp h => rw [trim_tidy ht hs] at hp; contradiction
      | brackets hs hp hne h => rw [trim_tidy ht hs] at hp; contradiction
      | member hs hp hne hb hu hm h => rw [trim_tidy ht hs] at hp; contradiction
  | mpoly0 =>
    have ht := wt_tidy (WT.mpoly0 (NT := NT))
    have hlit : tx (kMpoly ++ emp) = litMpoly := rfl
    obtain ⟨k1, k2, k3, k4, k5, k6, k7⟩ := (kw_all emp).2.2.2.2.2.1 _ rfl
    refine ⟨fun g' hr => ?_, fun hr => ?_⟩
    · cases hr with
      | mpoly hs hp h => rw [trim_tidy ht hs] at h; rw [rd_none hlit h]
      | pt hs hp h => rw [trim_tidy ht hs] at hp; contradiction
      | line hs hp h => rw [trim_tidy ht hs] at hp; contradiction
      | poly hs hp h => rw [trim_tidy ht hs] at hp; contradiction
      | mpt hs hp h => rw [trim_tidy ht hs] at hp; contradiction
      | mline hs hp h => rw [trim_tidy ht hs] at hp; contradiction
      | empty hs hp h => rw [trim_tidy ht hs] at hp; contradiction
      | coll hs hp hne hb hu hl h => rw [trim_tidy ht hs] at hp; contradiction
    · cases hr with
      | none hs h1 h2 h3 h4 h5 h6 h7 => rw [trim_tidy ht hs] at h6; contradiction
      | mpoly hs hp h => rw [trim_tidy ht hs] at h; exact h.1 hlit
      | pt hs hp h => rw [trim_tidy ht hs] at hp; contradiction
      | line hs hp h => rw [trim_tidy ht hs] at hp; contradiction
      | poly hs hp h => rw [trim_tidy ht hs] at hp; contradiction
      | mpt hs hp h => rw [trim_tidy ht hs] at hp; contradiction
      | mline hs hp h => rw [trim_tidy ht hs] at hp; contradiction
      | short hs hp h => rw [trim_tidy ht hs] at hp; contradiction
      | brackets hs hp hne h => rw [trim_tidy ht hs] at hp; contradiction
      | member hs hp hne hb hu hm h => rw [trim_tidy ht hs] at hp; contradiction
  | @mpoly l ps h =>
    have ht := wt_tidy (WT.mpoly h)
    obtain ⟨k1, k2, k3, k4, k5, k6, k7⟩ := (kw_all l).2.2.2.2.2.1 _ rfl
    have hl := mpoly_law N h
    obtain ⟨ls, _, _, rfl⟩ := h
    refine ⟨fun g' hr => ?_, fun hr => ?_⟩
    · cases hr with
      | mpoly hs hp h => rw [trim_tidy ht hs] at h; rw [hl.1 _ (rd_some (K := kMpoly) rfl h)]
      | pt hs hp h => rw [trim_tidy ht hs] at hp; contradiction
      | line hs hp h => rw [trim_tidy ht hs] at hp; contradiction
      | poly hs hp h => rw [trim_tidy ht hs] at hp; contradiction
      | mpt hs hp h => rw [trim_tidy ht hs] at hp; contradiction
      | mline hs hp h => rw [trim_tidy ht hs] at hp; contradiction
      | empty hs hp h => rw [trim_tidy ht hs] at hp; contradiction
      | coll hs hp hne hb hu hl h => rw [trim_tidy ht hs] at hp; contradiction
    · cases hr with
      | none hs h1 h2 h3 h4 h5 h6 h7 => rw [trim_tidy ht hs] at h6; contradiction
      | mpoly hs hp h => rw [trim_tidy ht hs] at h; exact hl.2 (rd_bad (K := kMpoly) h)
      | pt hs hp h => rw [trim_tidy ht hs] at hp; contradiction
      | line hs hp h => rw [trim_tidy ht hs] at hp; contradiction
      | poly hs hp h => rw [trim_tidy ht hs] at hp; contradiction
      | mpt hs hp h => rw [trim_tidy ht hs] at hp; contradiction
      | mline hs hp h => rw [trim_tidy ht hs] at hp; contradiction
      | short hs hp h => rw [trim_tidy ht hs] at hp; contradiction
      | brackets hs hp hne h => rw [trim_tidy ht hs] at hp; contradiction
      | member hs hp hne hb hu hm h => rw [trim_tidy ht hs] at hp; contradiction
  | coll0 =>
    have ht := wt_tidy (WT.coll0 (NT := NT))
    have hlit : tx (kColl ++ emp) = litColl := rfl
    obtain ⟨k1, k2, k3, k4, k5, k6, k7⟩ := (kw_all emp).2.2.2.2.2.2 _ rfl
    refine ⟨fun g' hr => ?_, fun hr => ?_⟩
    · cases hr with
      | pt hs hp h => rw [trim_tidy ht hs] at hp; contradiction
      | line hs hp h => rw [trim_tidy ht hs] at hp; contradiction
      | poly hs hp h => rw [trim_tidy ht hs] at hp; contradiction
      | mpt hs hp h => rw [trim_tidy ht hs] at hp; contradiction
      | mline hs hp h => rw [trim_tidy ht hs] at hp; contradiction
      | mpoly hs hp h => rw [trim_tidy ht hs] at hp; contradiction
      | empty hs hp h => rfl
      | coll hs hp hne hb hu hl h => rw [trim_tidy ht hs] at hne; exact absurd hlit hne
    · cases hr with
      | none hs h1 h2 h3 h4 h5 h6 h7 => rw [trim_tidy ht hs] at h7; contradiction
      | pt hs hp h => rw [trim_tidy ht hs] at hp; contradiction
      | line hs hp h => rw [trim_tidy ht hs] at hp; contradiction
      | poly hs hp h => rw [trim_tidy ht hs] at hp; contradiction
      | mpt hs hp h => rw [trim_tidy ht hs] at hp; contradiction
      | mline hs hp h => rw [trim_tidy ht hs] at hp; contradiction
      | mpoly hs hp h => rw [trim_tidy ht hs] at hp; contradiction
      | short hs hp h => rw [trim_tidy ht hs, hlit] at h; exact absurd h (by decide)
      | brackets hs hp hne h => rw [trim_tidy ht hs] at hne; exact absurd hlit hne
      | member hs hp hne hb hu hm h => rw [trim_tidy ht hs] at hne; exact absurd hlit hne
  | @coll ls gs hne hl hw ih =>
    have ht := wt_tidy (WT.coll hne hl hw)
    obtain ⟨k1, k2, k3, k4, k5, k6, k7⟩ := (kw_all (br (jn ls))).2.2.2.2.2.2 _ rfl
    have hmem : ∀ p ∈ ls, ∃ (i : Nat) (g : Geom), ls[i]? = some p ∧ gs[i]? = some g := fun p hp => by
      obtain ⟨i, hi, rfl⟩ := List.mem_iff_getElem.mp hp
      exact ⟨i, gs[i]'(by omega), List.getElem?_eq_getElem hi, List.getElem?_eq_getElem (by omega)⟩
    have hwm : ∀ p ∈ ls, TidyL p ∧ Inert 0 p := fun p hp => by
      obtain ⟨i, g, h1, h2⟩ := hmem p hp
      exact ⟨wt_tidy (hw i p g h1 h2), wt_inert N (hw i p g h1 h2)⟩
    have hj : TidyL (jn ls) := jn_tidy (fun p hp => (hwm p hp).1) hne
    have key : ∀ (s t : ByteArray) (us : List ByteArray), TrimR (tx (kColl ++ br (jn ls))) s → BrOk (s.extract 18 s.size) t → Trims (gsp (bs t) 0 []) us → us = ls.map tx := by
      intro s t us hs hb hu
      rw [trim_tidy ht hs] at hb
      have e : (tx (kColl ++ br (jn ls))).extract 18 (tx (kColl ++ br (jn ls))).size = tx (br (jn ls)) := bs_inj ((ext_kw kColl _).trans (bs_tx _).symm)
      rw [e] at hb
      rw [brok hj hb, bs_tx, gsp_jn hne fun p hp => (hwm p hp).2] at hu
      exact trims_law hu fun p hp => (hwm p hp).1
    refine ⟨fun g' hr => ?_, fun hr => ?_⟩
    · cases hr with
      | pt hs hp h => rw [trim_tidy ht hs] at hp; contradiction
      | line hs hp h => rw [trim_tidy ht hs] at hp; contradiction
      | poly hs hp h => rw [trim_tidy ht hs] at hp; contradiction
      | mpt hs hp h => rw [trim_tidy ht hs] at hp; contradiction
      | mline hs hp h => rw [trim_tidy ht hs] at hp; contradiction
      | mpoly hs hp h => rw [trim_tidy ht hs] at hp; contradiction
      | empty hs hp h => rw [trim_tidy ht hs] at h; exact (emp_no (K := kColl) rfl h).elim
      | @coll _ s t us gs' hs hp hne' hb hu hl' h =>
        have hus := key s t us hs hb hu
        subst hus
        congr 1
        apply List.ext_getElem?
        intro i
        rcases Nat.lt_or_ge i gs.length with hi | hi
        · have hi2 : i < ls.length := by omega
          have hi3 : i < gs'.length := by rw [← hl', List.length_map]; exact hi2
          have h1 := h i (tx ls[i]) gs'[i] (by rw [List.getElem?_map, List.getElem?_eq_getElem hi2]; rfl) (List.getElem?_eq_getElem hi3)
          have h2 := (ih i ls[i] gs[i] (List.getElem?_eq_getElem hi2) (List.getElem?_eq_getElem hi)).1 _ h1
          rw [List.getElem?_eq_getElem hi, List.getElem?_eq_getElem hi3, h2]
        · have hi3 : gs'.length ≤ i := by rw [← hl', List.length_map]; omega
          rw [List.getElem?_eq_none hi, List.getElem?_eq_none hi3]
    · cases hr with
      | none hs h1 h2 h3 h4 h5 h6 h7 => rw [trim_tidy ht hs] at h7; contradiction
      | pt hs hp h => rw [trim_tidy ht hs] at hp; contradiction
      | line hs hp h => rw [trim_tidy ht hs] at hp; contradiction
      | poly hs hp h => rw [trim_tidy ht hs] at hp; contradiction
      | mpt hs hp h => rw [trim_tidy ht hs] at hp; contradiction
      | mline hs hp h => rw [trim_tidy ht hs] at hp; contradiction
      | mpoly hs hp h => rw [trim_tidy ht hs] at hp; contradiction
      | short hs hp h => rw [trim_tidy ht hs, tx_size] at h; simp [kColl, br] at h
      | brackets hs hp hne' h =>
        rw [trim_tidy ht hs] at h
        have e : (tx (kColl ++ br (jn ls))).extract 18 (tx (kColl ++ br (jn ls))).size = tx (br (jn ls)) := bs_inj ((ext_kw kColl _).trans (bs_tx _).symm)
        rw [e] at h
        exact brbad h
      | @member _ s t us u hs hp hne' hb hu hm h =>
        have hus := key s t us hs hb hu
        subst hus
        obtain ⟨p, hp2, rfl⟩ := List.mem_map.mp hm
        obtain ⟨i, g, h1, h2⟩ := hmem p hp2
        exact (ih i p g h1 h2).2 h
end Go.Proofs.YtgmbjdoifkjdhaaGreatDoor
end
