/- Rows that the call builds by append, and what is read out of them. findParens. splitByRegexpYield, with the closures by their contracts. trimSpaceBrackets, upperPrefix, splitGeometryCollection. upperPrefix and HasPrefix. splitGeometryCollection. parsePoint, over any reader of numbers. -/
import Derived.Test.YtgmbjdoifkjdhaaGreatDoorKc
import Derived.RegionTactic
section
namespace Go.Proofs.YtgmbjdoifkjdhaaGreatDoor
open Go.RowKit

section
variable {P : Program}
theorem run_append_at (w : World) (base : Nat) (t ty e : TypeId) (i : TypeInfo) (z : Value) (size bytes : Nat) (ht : P.underlying t = some (.slice e)) (hi : P.info? e = some i) (hz : i.zero = some z)
    (hsize : i.size = size) (hby : i.bytes = bytes) (hzs : z.cells.size = size) (hsz : 0 < size)
    (v : Value) (n : Nat) (xs : List Value) (hown : w.ownsRow base e size v n xs)
    (a : Addr) (m c : Nat) (news : List Value) (hm : 0 < m) (hl : news.length = m * size) (hnews : ∀ j u, news[j]? = some u → w.cell? (a.add j) = some u) (h1 : ∀ u ∈ news, u.oneCell' = true)
    (h63 : n + m ≤ maxLen) (hbytes : (n + m) * bytes ≤ 140737488355328) (hbase : base ≤ w.heap.size) :
    ∃ v' w', (Builtin.append_ #[t, t] ty #[v, .slice (some a) m c]).run P w = .ok v' w' ∧ w'.ownsRow base e size v' (n + m) (xs ++ news) ∧ w.grownBy w' v.ownBlock ∧
      (v'.ownBlock = v.ownBlock ∨ v'.ownBlock = some w.heap.size) := by
  obtain ⟨v', w', hr, ho, hg, _⟩ := run_append_own (P := P) w base t ty e i z size bytes ht hi hz hsize hby hzs hsz v n xs hown a m c news hl hnews h1 h63 hbytes hbase
  refine ⟨v', w', hr, ho, hg, ?_⟩
  subst hsize
  subst hby
  have hsmall : n + m ≤ 9223372036854775807 := by simp only [maxLen] at h63; omega
  rcases hown.2 with ⟨rfl, rfl⟩ | ⟨g, cap, cur, rfl, hbg, hg, hnc, hcm, hcs, htake⟩
  · have hr2 := run_append_nil (P := P) w t ty e i z ht hi hz a m c news hl hnews hm (by omega) (by have hb := hbytes; simp only [Nat.zero_add] at hb; omega)
    rw [hr] at hr2
    injection hr2 with h2 h3
    subst h2
    exact .inr rfl
  · by_cases hroom : n + m ≤ cap
    · have hfit : n * i.size + news.length ≤ cur.size := by rw [hl, hcs, ← Nat.add_mul]; exact Nat.mul_le_mul_right _ hroom
      have hr2 := run_append_room (P := P) w t ty e i ht hi g n cap cur hg a m c news hl hnews h1 hroom hfit
      rw [hr] at hr2
      injection hr2 with h2 h3
      subst h2
      exact .inl rfl
    · have holds : ∀ j u, xs[j]? = some u → w.cell? ((⟨g, 0, none⟩ : Addr).add j) = some u := hown.cells (g := g) rfl
      have hr2 := run_append_grow (P := P) w t ty e i z ht hi hz ⟨g, 0, none⟩ n cap xs hown.1 holds a m c news hl hnews (by omega) (by omega) (growslice_fits (by omega) hbytes)
      rw [hr] at hr2
      injection hr2 with h2 h3
      subst h2
      exact .inr rfl

theorem wpList_append_at (w : World) {ops : Array Oper} {rest : List Oper} {o : Oper} {a : Act} {Q : Exit → Act → World → Prop} (hgd : o.guard = none) (s x : Operand) (t : TypeId)
    (ho : o.op = .call { callee := .builtin .append, args := #[s, x], argTypes := #[t, t] })
    (base : Nat) (e : TypeId) (i : TypeInfo) (z : Value) (size bytes : Nat) (ht : P.underlying t = some (.slice e)) (hi : P.info? e = some i) (hz : i.zero = some z)
    (hsize : i.size = size) (hby : i.bytes = bytes) (hzs : z.cells.size = size) (hsz : 0 < size)
    (v : Value) (n : Nat) (xs : List Value) (hs : a.eval s = v) (hown : w.ownsRow base e size v n xs)
    (ad : Addr) (m c : Nat) (news : List Value) (hx : a.eval x = .slice (some ad) m c) (hm : 0 < m) (hl : news.length = m * size) (hnews : ∀ j u, news[j]? = some u → w.cell? (ad.add j) = some u) (h1 : ∀ u ∈ news, u.oneCell' = true)
    (h63 : n + m ≤ maxLen) (hbytes : (n + m) * bytes ≤ 140737488355328) (hbase : base ≤ w.heap.size)
    (h : ∀ v' w', w'.ownsRow base e size v' (n + m) (xs ++ news) → w.grownBy w' v.ownBlock → (v'.ownBlock = v.ownBlock ∨ v'.ownBlock = some w.heap.size) → wpList P ops Q rest (a.put o.dst v') w') : wpList P ops Q (o :: rest) a w := by
  refine wpList_plain hgd fun K hK => ?_
  obtain ⟨v', w', hr, h2, h3, h4⟩ := run_append_at (P := P) w base t o.type e i z size bytes ht hi hz hsize hby hzs hsz v n xs hown ad m c news hm hl hnews h1 h63 hbytes hbase
  unfold Oper.wp execOp
  simp only [ho, resolve, invoke, builtin, Sem.run_bind, Sem.run_pure, Result.andThen_ok, List.map_toArray, List.map_cons, List.map_nil, hs, hx, hr]
  exact hK _ _ (h v' w' h2 h3 h4)
end

/-- R holds in w, and only blocks from lo on bear it. -/
def Sup (lo : Nat) (R : World → Prop) (w : World) : Prop :=
  ∃ F : List Nat, (∀ g ∈ F, lo ≤ g ∧ g < w.heap.size) ∧ ∀ w', (∀ g ∈ F, w'.heap[g]? = w.heap[g]?) → R w'
theorem Sup.get {lo : Nat} {R : World → Prop} {w : World} (h : Sup lo R w) : R w := by
  obtain ⟨F, _, h2⟩ := h; exact h2 w fun _ _ => rfl
theorem Sup.below {lo : Nat} {R : World → Prop} {w w' : World} (h : Sup lo R w) (hb : Below w.heap.size w w') : Sup lo R w' := by
  obtain ⟨F, h1, h2⟩ := h
  refine ⟨F, fun g hg => ⟨(h1 g hg).1, Nat.lt_of_lt_of_le (h1 g hg).2 hb.size⟩, fun w'' hw => h2 w'' fun g hg => ?_⟩
  rw [hw g hg, hb.block g (h1 g hg).2]
theorem Sup.grown {lo : Nat} {R : World → Prop} {w w' : World} {row : Option Nat} (h : Sup lo R w) (hb : w.grownBy w' row) (hr : ∀ p, row = some p → p < lo) : Sup lo R w' := by
  obtain ⟨F, h1, h2⟩ := h
  refine ⟨F, fun g hg => ⟨(h1 g hg).1, Nat.lt_of_lt_of_le (h1 g hg).2 hb.size⟩, fun w'' hw => h2 w'' fun g hg => ?_⟩
  rw [hw g hg, hb.block g (h1 g hg).2 (fun he => by have := hr g he.symm; have := (h1 g hg).1; omega)]
theorem Sup.imp {lo : Nat} {R R' : World → Prop} {w : World} (h : Sup lo R w) (hi : ∀ w, R w → R' w) : Sup lo R' w := by
  obtain ⟨F, h1, h2⟩ := h; exact ⟨F, h1, fun w' hw => hi _ (h2 w' hw)⟩
theorem Sup.mono {lo lo' : Nat} {R : World → Prop} {w : World} (h : Sup lo R w) (hl : lo' ≤ lo) : Sup lo' R w := by
  obtain ⟨F, h1, h2⟩ := h; exact ⟨F, fun g hg => ⟨Nat.le_trans hl (h1 g hg).1, (h1 g hg).2⟩, h2⟩
theorem Sup.pure {lo : Nat} {p : Prop} {w : World} (h : p) : Sup lo (fun _ => p) w := ⟨[], by simp, fun _ _ => h⟩
theorem Sup.and {lo : Nat} {R R' : World → Prop} {w : World} (h : Sup lo R w) (h' : Sup lo R' w) : Sup lo (fun w => R w ∧ R' w) w := by
  obtain ⟨F, h1, h2⟩ := h
  obtain ⟨F', h1', h2'⟩ := h'
  refine ⟨F ++ F', fun g hg => ?_, fun w' hw => ⟨h2 w' fun g hg => hw g (by simp [hg]), h2' w' fun g hg => hw g (by simp [hg])⟩⟩
  rcases List.mem_append.mp hg with h | h
  · exact h1 g h
  · exact h1' g h

/-- A slice whose elements are these, each of so many cells. -/
def IsSl {X : Type} (size : Nat) (It : List Value → X → World → Prop) (v : Value) (xs : List X) (w : World) : Prop :=
  ∃ (ao : Option Addr) (cap : Nat) (css : List (List Value)), v = .slice ao xs.length cap ∧ css.length = xs.length ∧ (∀ c ∈ css, c.length = size) ∧
    (∀ j u, css.flatten[j]? = some u → ∃ g, ao = some ⟨g, 0, none⟩ ∧ w.cell? ⟨g, j, none⟩ = some u) ∧
    ∀ (i : Nat) (c : List Value) (x : X), css[i]? = some c → xs[i]? = some x → It c x w

/-- The same, of a row that the call owns and goes on building; its cells are named. -/
def BuiltC {X : Type} (base : Nat) (e : TypeId) (size : Nat) (It : List Value → X → World → Prop) (v : Value) (xs : List X) (css : List (List Value)) (w : World) : Prop :=
  css.length = xs.length ∧ (∀ c ∈ css, c.length = size) ∧ w.ownsRow base e size v xs.length css.flatten ∧
    ∃ F : List Nat, (∀ g ∈ F, base ≤ g ∧ g < w.heap.size ∧ some g ≠ v.ownBlock) ∧
      ∀ w' : World, (∀ g ∈ F, w'.heap[g]? = w.heap[g]?) → ∀ (i : Nat) (c : List Value) (x : X), css[i]? = some c → xs[i]? = some x → It c x w'
def Built {X : Type} (base : Nat) (e : TypeId) (size : Nat) (It : List Value → X → World → Prop) (v : Value) (xs : List X) (w : World) : Prop :=
  ∃ css, BuiltC base e size It v xs css w

section
variable {X : Type} {base : Nat} {e : TypeId} {size : Nat} {It : List Value → X → World → Prop} {v : Value} {xs : List X} {w w' : World}
theorem Built.start (h : w.ownsRow base e size v 0 []) : Built base e size It v ([] : List X) w :=
  ⟨[], rfl, by simp, h, [], by simp, fun _ _ i c x hc => by simp at hc⟩
theorem Built.lt (h : Built base e size It v xs w) : ∀ p, v.ownBlock = some p → base ≤ p ∧ p < w.heap.size := by
  obtain ⟨css, _, _, h3, _⟩ := h; exact h3.lt
theorem BuiltC.below {css : List (List Value)} (h : BuiltC base e size It v xs css w) (hb : Below w.heap.size w w') : BuiltC base e size It v xs css w' := by
  obtain ⟨h1, h2, h3, F, h4, h5⟩ := h
  have hg : w.grownBy w' none := ⟨hb.os, hb.tape, hb.output, hb.size, fun k hk _ => hb.block k hk⟩
  refine ⟨h1, h2, h3.kept hg (by cases v.ownBlock <;> simp), F, fun g hg => ⟨(h4 g hg).1, Nat.lt_of_lt_of_le (h4 g hg).2.1 hb.size, (h4 g hg).2.2⟩, fun w'' hw => h5 w'' fun g hg => ?_⟩
  rw [hw g hg, hb.block g (h4 g hg).2.1]
theorem Built.below (h : Built base e size It v xs w) (hb : Below w.heap.size w w') : Built base e size It v xs w' := by
  obtain ⟨css, h⟩ := h; exact ⟨css, h.below hb⟩
theorem BuiltC.push {v' : Value} {c : List Value} {x : X} {css : List (List Value)} {lo : Nat} (h : BuiltC base e size It v xs css w) (hcs : w'.ownsRow base e size v' (xs.length + 1) (css.flatten ++ c))
    (hc : c.length = size) (hit : Sup lo (It c x) w) (hlo : base ≤ lo) (hp : ∀ p, v.ownBlock = some p → p < lo)
    (hg : w.grownBy w' v.ownBlock) (hv : v'.ownBlock = v.ownBlock ∨ v'.ownBlock = some w.heap.size) : Built base e size It v' (xs ++ [x]) w' := by
  obtain ⟨h1, h2, h3, F, h4, h5⟩ := h
  obtain ⟨F', h6, h7⟩ := hit
  refine ⟨css ++ [c], by simp [h1], ?_, ?_, F ++ F', ?_, ?_⟩
  · intro d hd
    rcases List.mem_append.mp hd with h | h
    · exact h2 d h
    · rw [List.mem_singleton.mp h]; exact hc
  · simpa using hcs
  · intro g hg'
    have : base ≤ g ∧ g < w.heap.size ∧ some g ≠ v.ownBlock := by
      rcases List.mem_append.mp hg' with h | h
      · exact h4 g h
      · exact ⟨Nat.le_trans hlo (h6 g h).1, (h6 g h).2, fun he => by have := hp g he.symm; have := (h6 g h).1; omega⟩
    refine ⟨this.1, Nat.lt_of_lt_of_le this.2.1 hg.size, ?_⟩
    rcases hv with hv | hv
    · rw [hv]; exact this.2.2
    · rw [hv]; intro he; injection he with he; omega
  · intro w'' hw i d y hd hy
    have hk : ∀ g ∈ F, w''.heap[g]? = w.heap[g]? := fun g hg' => by
      rw [hw g (by simp [hg']), hg.block g (h4 g hg').2.1 (h4 g hg').2.2]
    have hk' : ∀ g ∈ F', w''.heap[g]? = w.heap[g]? := fun g hg' => by
      rw [hw g (by simp [hg']), hg.block g (h6 g hg').2 (fun he => by have := hp g he.symm; have := (h6 g hg').1; omega)]
    by_cases hi : i < css.length
    · rw [List.getElem?_append_left hi] at hd
      rw [List.getElem?_append_left (by omega)] at hy
      exact h5 w'' hk i d y hd hy
    · rw [List.getElem?_append_right (by omega)] at hd
      rw [List.getElem?_append_right (by omega)] at hy
      have h0 : i - css.length = 0 := by
        have := (List.getElem?_eq_some_iff.mp hd).1; simp at this; omega
      rw [h0] at hd
      rw [show i - xs.length = 0 by omega] at hy
      simp at hd hy
      subst hd; subst hy
      exact h7 w'' hk'
/-- One more element: its cells were laid behind wr. -/
theorem BuiltC.more {wr w2 w1 : World} {v' : Value} {c : List Value} {x : X} {css : List (List Value)} (h : BuiltC base e size It v xs css wr) (h12 : Below wr.heap.size wr w2) (hit : Sup wr.heap.size (It c x) w2) (hc : c.length = size)
    (hbase : base ≤ wr.heap.size) (hown : w1.ownsRow base e size v' (xs.length + 1) (css.flatten ++ c)) (hg : w2.grownBy w1 v.ownBlock) (hv : v'.ownBlock = v.ownBlock ∨ v'.ownBlock = some w2.heap.size) :
    Built base e size It v' (xs ++ [x]) w1 ∧ Below base wr w1 :=
  ⟨(h.below h12).push hown hc hit hbase (fun p hp => (h.2.2.1.lt p hp).2) hg hv,
   (h12.mono hbase).grown hg (Nat.le_trans hbase h12.size) (fun k hk => (h.2.2.1.lt k hk).1)⟩
theorem Built.sup (h : Built base e size It v xs w) : Sup base (IsSl size It v xs) w := by
  obtain ⟨css, h1, h2, h3, F, h4, h5⟩ := h
  rcases hb : v.ownBlock with _ | p
  · refine ⟨F, fun g hg => ⟨(h4 g hg).1, (h4 g hg).2.1⟩, fun w' hw => ?_⟩
    rcases h3.2 with ⟨rfl, hn⟩ | ⟨g, cap, cur, rfl, _⟩
    · refine ⟨none, 0, css, by rw [hn], h1, h2, ?_, h5 w' hw⟩
      intro j u hj
      have : css = [] := List.eq_nil_of_length_eq_zero (by omega)
      rw [this] at hj; simp at hj
    · simp [Value.ownBlock] at hb
  · refine ⟨p :: F, ?_, fun w' hw => ?_⟩
    · intro g hg
      rcases List.mem_cons.mp hg with rfl | hg
      · exact h3.lt _ hb
      · exact ⟨(h4 g hg).1, (h4 g hg).2.1⟩
    · have hcell := h3.cells hb
      rcases h3.2 with ⟨rfl, hn⟩ | ⟨g, cap, cur, rfl, _⟩
      · simp [Value.ownBlock] at hb
      · simp [Value.ownBlock] at hb
        subst hb
        refine ⟨some ⟨g, 0, none⟩, cap, css, rfl, h1, h2, ?_, h5 w' fun x hx => hw x (by simp [hx])⟩
        intro j u hj
        refine ⟨g, rfl, ?_⟩
        have hadd : (⟨g, 0, none⟩ : Addr).add j = ⟨g, j, none⟩ := by unfold Addr.add; split <;> simp_all
        have := hcell j u hj
        rw [hadd] at this
        rw [← this]
        exact World.cell?_of_block (hw g (by simp))
end
end Go.Proofs.YtgmbjdoifkjdhaaGreatDoor
end
section
namespace Go.Proofs.YtgmbjdoifkjdhaaGreatDoor
open Go.RowKit

theorem info126 : (Tryz.prog.info? 126).map (fun i => (i.zero, i.size, i.bytes)) = some (some (.slice none 0 0), 1, 24) := by kernel_rfl
theorem under124 : Tryz.prog.underlying 124 = some (.slice 126) := by kernel_rfl

theorem sup_new (w : World) (t : TypeId) (cs : Array Value) : Sup w.heap.size (fun w' => w'.heap[w.heap.size]? = some (.cells cs t (0, 0))) (w.alloc (.cells cs t)) := by
  refine ⟨[w.heap.size], by simp, fun w' hw => ?_⟩
  exact (hw w.heap.size (by simp)).trans (heap_alloc_new w _)
theorem new_at (w : World) (t : TypeId) (cs : Array Value) (b : Nat) (hb : w.heap.size = b) : ∀ j u, cs.toList[j]? = some u → (w.alloc (.cells cs t)).cell? ((⟨b, 0, none⟩ : Addr).add j) = some u := by
  intro j u hu
  have hadd : (⟨b, 0, none⟩ : Addr).add j = ⟨b, j, none⟩ := by unfold Addr.add; split <;> simp_all
  subst hb
  rw [hadd, (Blk.new w t cs).cell]
  simpa using hu
theorem below_alloc (w : World) (o : Obj) : Below w.heap.size w (w.alloc o) := (Below.refl _ _).alloc (Nat.le_refl _) o

/-- All matches, left to right: where each begins to part, and where the next part begins. -/
inductive Mts (s : ByteArray) (dbl : Bool) : Nat → List (Nat × Nat) → Prop
  | stop {i : Nat} (h : s.size ≤ i) : Mts s dbl i []
  | miss {i : Nat} {ms : List (Nat × Nat)} (hi : i < s.size) (h : mp dbl ((bs s).drop i) = none) (ht : Mts s dbl (i + 1) ms) : Mts s dbl i ms
  | hit {i f t n : Nat} {ms : List (Nat × Nat)} (hi : i < s.size) (h1 : i < f) (h2 : f ≤ t) (h3 : t < n) (h4 : n ≤ s.size)
    (h : mp dbl ((bs s).drop i) = some ((bs s).drop f, (bs s).drop t, (bs s).drop n)) (ht : Mts s dbl n ms) : Mts s dbl i ((f, t) :: ms)

/-- One entry of the list of matches. -/
def IdxIt (lo : Nat) (c : List Value) (x : Nat × Nat) (w : World) : Prop :=
  ∃ g cp, lo ≤ g ∧ c = [.slice (some ⟨g, 0, none⟩) 4 cp] ∧ w.cell? ⟨g, 2, none⟩ = some (.int .i64 x.1) ∧ w.cell? ⟨g, 3, none⟩ = some (.int .i64 x.2)

theorem find_any (s : ByteArray) (dbl : Bool) (w : World) (hs : s.size ≤ 1099511627776) :
    Calls Tryz.prog 69 #[.string s, .bool dbl] w fun e w' => ∃ v ms, e = .returned v ∧ Mts s dbl 0 ms ∧ Sup w.heap.size (IsSl 1 (IdxIt w.heap.size) v ms) w' ∧ (∀ b, v.ownBlock = some b → w.heap.size ≤ b) ∧ Below w.heap.size w w' := by
  obtain ⟨i0, hi, hz0, hz1, hz2⟩ := info_parts info126
  go_enter Tryz.func69, Tryz.ntmps69
  go_wp2
  go_loopw [5, 6] (fun v i wr => ∃ (k : Nat) (ms : List (Nat × Nat)), k ≤ s.size ∧ i = .int .i64 k ∧ ms.length ≤ k ∧ Hid (∀ r, Mts s dbl k r → Mts s dbl 0 (ms ++ r)) ∧ Hid (Built w.heap.size 126 1 (IdxIt w.heap.size) v ms wr) ∧ Hid (Below w.heap.size w wr))
    (fun _ i _ => s.size - (intOf i).toNat)
  case atStart => exact ⟨0, [], Nat.zero_le _, rfl, Nat.le_refl _, hide (by simp), hide (Built.start (World.ownsRow_nil _ _ _ _)), hide (Below.refl _ _)⟩
  case round =>
    obtain ⟨k, ms, hk, rfl, hml, hm, hb, hbel⟩ := hrel
    by_cases hlt : k < s.size
    · obtain ⟨css, hb2⟩ := hb.out
      have hown := hide hb2.2.2.1
      replace hb2 := hide hb2
      go_wp2_with (first
        | (go_at_call 81; (with_reducible refine (mp_any s _ dbl _ hs hlt).mono ?_); rintro e w' ⟨⟨r, rfl, hr⟩, rfl⟩; rcases hr with ⟨rfl, hr⟩ | ⟨f, t, n, rfl, h1, h2, h3, h4, h5⟩; rotate_left 1; obtain ⟨f, rfl⟩ := Int.eq_ofNat_of_zero_le (show 0 ≤ f by omega); obtain ⟨t, rfl⟩ := Int.eq_ofNat_of_zero_le (show 0 ≤ t by omega); obtain ⟨n, rfl⟩ := Int.eq_ofNat_of_zero_le (show 0 ≤ n by omega))
        | (at_builtin; refine wpList_append_at _ rfl _ _ 124 rfl w.heap.size 126 i0 (.slice none 0 0) 1 24 under124 hi hz0 hz1 hz2 rfl (by decide) _ _ _ rfl ((hown.out.alloc _).alloc _) ⟨wr.heap.size + 1, 0, none⟩ 1 1 [.slice (some ⟨wr.heap.size, 0, none⟩) 4 4] rfl (by decide) rfl (new_at (wr.alloc _) 126 #[.slice (some ⟨wr.heap.size, 0, none⟩) 4 4] _ (by simp)) (by simp [Value.oneCell']) (by unfold maxLen; omega) (by omega) (by have := hbel.out.size; simp; omega) ?_; intro v' w1 hown' hgrow hv'))
      · obtain ⟨hB, hL⟩ := BuiltC.more (x := (f, t)) hb2.out ((below_alloc wr _).trans ((below_alloc _ _).mono (by simp))) (((sup_new wr 3 _).imp fun w' hw => ⟨wr.heap.size, 4, hbel.out.size, rfl, by rw [cell_of_row w' _ 2 _ _ _ hw]; rfl, by rw [cell_of_row w' _ 3 _ _ _ hw]; rfl⟩).below (below_alloc _ _)) rfl hbel.out.size hown' hgrow hv'
        refine ⟨⟨n, ms ++ [(f, t)], by omega, rfl, by rw [List.length_append, List.length_singleton]; omega, hide ?_, hide hB, hide (hbel.out.trans hL)⟩, by simp [intOf]; omega⟩
        intro r hr
        rw [List.append_assoc]
        exact hm.out _ (.hit hlt (by omega) (by omega) (by omega) (by omega) h5 hr)
      · exact ⟨⟨k + 1, ms, hlt, rfl, by omega, hide fun r h => hm.out r (.miss hlt hr h), hb, hbel⟩, by simp [intOf]; omega⟩
    · go_wp2
      go_ret
      exact ⟨_, ms, rfl, by have := hm.out [] (.stop (by omega)); rwa [List.append_nil] at this, hb.out.sup, fun b hb2 => (hb.out.lt b hb2).1, hbel.out⟩
end Go.Proofs.YtgmbjdoifkjdhaaGreatDoor
end
section
namespace Go.Proofs.YtgmbjdoifkjdhaaGreatDoor
open Go.RowKit

/-- The parts, from start on. -/
def rsp (s : ByteArray) : Nat → List (Nat × Nat) → List (List UInt8)
  | a, [] => [ex s a s.size]
  | a, (f, t) :: ms => ex s a f :: rsp s t ms
def Parts (s : ByteArray) (dbl : Bool) (ps : List (List UInt8)) : Prop := ∃ ms, Mts s dbl 0 ms ∧ ps = rsp s 0 ms

theorem Mts.len {s : ByteArray} {dbl : Bool} {i : Nat} {l : List (Nat × Nat)} (h : Mts s dbl i l) : l.length + i ≤ s.size ∨ l = [] := by
  induction h with
  | stop h => exact .inr rfl
  | miss hi h ht ih =>
    rcases ih with ih | ih
    · exact .inl (by omega)
    · exact .inr ih
  | @hit i f t n ms hi h1 h2 h3 h4 h ht ih =>
    refine .inl ?_
    rw [List.length_cons]
    rcases ih with ih | ih
    · omega
    · rw [ih, List.length_nil]; omega
theorem Mts.head {s : ByteArray} {dbl : Bool} {i f t : Nat} {r l : List (Nat × Nat)} (h : Mts s dbl i l) (hl : l = (f, t) :: r) : ∃ n, i < f ∧ f ≤ t ∧ t < n ∧ n ≤ s.size ∧ Mts s dbl n r := by
  induction h with
  | stop h => cases hl
  | miss hi h ht ih =>
    obtain ⟨n, h1, h2⟩ := ih hl
    exact ⟨n, by omega, h2⟩
  | hit hi h1 h2 h3 h4 h ht ih =>
    injection hl with h5 h6
    injection h5 with h7 h8
    subst h6; subst h7; subst h8
    exact ⟨_, by omega, h2, h3, h4, ht⟩

theorem flatten_at {α : Type} (n : Nat) (css : List (List α)) (h : ∀ c ∈ css, c.length = n) (k : Nat) (c : List α) (hk : css[k]? = some c) (j : Nat) (hj : j < n) : css.flatten[k * n + j]? = c[j]? := by
  induction css generalizing k with
  | nil => simp at hk
  | cons d t ih =>
    have hd : d.length = n := h d (by simp)
    cases k with
    | zero =>
      simp at hk; subst hk
      rw [List.flatten_cons, List.getElem?_append_left (by omega)]
      simp
    | succ k =>
      simp at hk
      rw [List.flatten_cons, List.getElem?_append_right (by rw [Nat.add_mul]; omega)]
      rw [hd, show (k + 1) * n + j - n = k * n + j by rw [Nat.add_mul]; omega]
      exact ih (fun c hc => h c (by simp [hc])) k hk
theorem IsSl.shape {X : Type} {size : Nat} {It : List Value → X → World → Prop} {v : Value} {xs : List X} {w : World} (hs : 0 < size) (h : IsSl size It v xs w) : ∃ ao cap, v = .slice ao xs.length cap ∧
    ∀ (k : Nat) (x : X), xs[k]? = some x → ∃ b c, ao = some ⟨b, 0, none⟩ ∧ c.length = size ∧ It c x w ∧ ∀ (j : Nat) (u : Value), c[j]? = some u → w.cell? ⟨b, k * size + j, none⟩ = some u := by
  obtain ⟨ao, cap, css, h1, h2, h3, h4, h5⟩ := h
  refine ⟨ao, cap, h1, fun k x hk => ?_⟩
  have hkl : k < css.length := by rw [h2]; exact (List.getElem?_eq_some_iff.mp hk).1
  have hkc := List.getElem?_eq_getElem hkl
  have hcl := h3 _ (List.mem_of_getElem? hkc)
  have hit := h5 k _ x hkc hk
  · have h0 : 0 < css[k].length := by omega
    obtain ⟨u0, hu0⟩ : ∃ u, css[k][0]? = some u := ⟨_, List.getElem?_eq_getElem h0⟩
    obtain ⟨b, hb, _⟩ := h4 (k * size + 0) u0 ((flatten_at size css h3 k _ hkc 0 (by omega)).trans hu0)
    refine ⟨b, css[k], hb, hcl, hit, fun j u hj => ?_⟩
    have hjl : j < size := by rw [← hcl]; exact (List.getElem?_eq_some_iff.mp hj).1
    obtain ⟨b', hb', hc⟩ := h4 (k * size + j) u ((flatten_at size css h3 k _ hkc j hjl).trans hj)
    rw [hb] at hb'
    injection hb' with hb'
    injection hb' with hb'
    rw [hb']; exact hc

theorem idx_at {lo : Nat} {v : Value} {ms : List (Nat × Nat)} {w : World} (h : IsSl 1 (IdxIt lo) v ms w) (hv : ∀ b, v.ownBlock = some b → lo ≤ b) : ∃ ao cap, v = .slice ao ms.length cap ∧ ∀ (k f t : Nat), ms[k]? = some (f, t) →
    ∃ b g cp, ao = some ⟨b, 0, none⟩ ∧ lo ≤ b ∧ lo ≤ g ∧ w.cell? ⟨b, k, none⟩ = some (.slice (some ⟨g, 0, none⟩) 4 cp) ∧
    w.cell? ⟨g, 2, none⟩ = some (.int .i64 f) ∧ w.cell? ⟨g, 3, none⟩ = some (.int .i64 t) := by
  obtain ⟨ao, cap, h1, h2⟩ := h.shape (by decide)
  refine ⟨ao, cap, h1, fun k f t hk => ?_⟩
  obtain ⟨b, c, h3, _, ⟨g, cp, hg, rfl, h6, h7⟩, h8⟩ := h2 k _ hk
  have := h8 0 _ rfl
  refine ⟨b, g, cp, h3, ?_, hg, by simpa using this, h6, h7⟩
  apply hv
  rw [h1, h3]; rfl
theorem cell_lt {w : World} {p : Addr} {v : Value} (h : w.cell? p = some v) : p.block < w.heap.size := by
  rcases Nat.lt_or_ge p.block w.heap.size with h1 | h1
  · exact h1
  · have : w.heap[p.block]? = none := Array.getElem?_eq_none h1
    simp [World.cell?, this] at h
theorem cell_ag {lo : Nat} {w w' : World} (h : ∀ g, lo ≤ g → g < w.heap.size → w'.heap[g]? = w.heap[g]?) {p : Addr} {v : Value} (hp : lo ≤ p.block) (hc : w.cell? p = some v) : w'.cell? p = some v :=
  (World.cell?_of_block (h p.block hp (cell_lt hc))).trans hc

set_option maxHeartbeats 1000000 in
set_option maxRecDepth 100000 in
theorem splitR_any (K1 K2 : Nat) (cap1 cap2 : Array Value) (hK1 : ∀ (args : Array Value) (w : World), (callFunc K1 args).run Tryz.prog w = .ok (.enter K1 args) w)
    (hK2 : ∀ (args : Array Value) (w : World), (callFunc K2 args).run Tryz.prog w = .ok (.enter K2 args) w)
    (s : ByteArray) (dbl : Bool) (w : World) (hs : s.size ≤ 1099511627776) (I : World → List (List UInt8) → World → Prop) (J : World → List UInt8 → World → Prop)
    (hset : ∀ (n : Int) W1, 1 ≤ n → n ≤ s.size + 1 → Below w.heap.size w W1 → Calls Tryz.prog K1 (#[.int .i64 n] ++ cap1) W1 fun e w' => e = .returned (.tuple #[]) ∧ I W1 [] w')
    (hcall : ∀ ps W1 done (p : ByteArray) rest w1, Parts s dbl ps → done ++ bs p :: rest = ps → p.size ≤ s.size → Below w.heap.size w W1 → I W1 done w1 →
      Calls Tryz.prog K2 (#[.string p] ++ cap2) w1 fun e w' => (e = .returned .nilIface ∧ I W1 (done ++ [bs p]) w') ∨ (∃ t q, e = .returned (.iface t q) ∧ J W1 (bs p) w'))
    (hframe : ∀ W1 done w1, I W1 done w1 → ∀ g, w.heap.size ≤ g → g < W1.heap.size → w1.heap[g]? = W1.heap[g]?) :
    Calls Tryz.prog 46 #[.string s, .bool dbl, .func (.func K1) #[] cap1, .func (.func K2) #[] cap2] w fun e w' =>
      ∃ W1 ps, Below w.heap.size w W1 ∧ Parts s dbl ps ∧ ((e = .returned .nilIface ∧ I W1 ps w') ∨ (∃ t q, e = .returned (.iface t q) ∧ ∃ p ∈ ps, J W1 p w')) := by
  replace hset := hide hset
  replace hcall := hide hcall
  replace hframe := hide hframe
  go_enter Tryz.func46, Tryz.ntmps46
  go_wp2_with (first
    | (go_at_call 69; (with_reducible refine (find_any s dbl _ hs).mono ?_); rintro e W1 ⟨v, ms, rfl, hms, hsup, hown, hbel⟩; have hml : ms.length ≤ s.size := (by rcases hms.len with h | h; (· omega); (· rw [h]; exact Nat.zero_le _)); obtain ⟨ao, cap, rfl, hidx⟩ := idx_at hsup.get hown; clear hown; replace hidx := hide hidx; replace hms := hide hms; replace hsup := hide hsup; replace hbel := hide hbel)
    | ((with_reducible refine (hset.out _ W1 ?_ ?_ hbel.out).mono ?_); (· omega); (· omega); rintro e w1 ⟨rfl, hI⟩; replace hI := hide hI))
  go_loopw [10, 24] (fun vs vk wr => ∃ (a k i : Nat) (done : List (List UInt8)), k ≤ ms.length ∧ vs = .int .i64 a ∧ vk = .int .i64 k ∧ a ≤ s.size ∧ Hid (a ≤ i ∧ Mts s dbl i (ms.drop k)) ∧ Hid (done ++ rsp s a (ms.drop k) = rsp s 0 ms) ∧ Hid (I W1 done wr))
    (fun _ i _ => ms.length - (intOf i).toNat)
  case atStart => exact ⟨0, 0, 0, [], Nat.zero_le _, rfl, rfl, Nat.zero_le _, hide ⟨Nat.le_refl _, hms.out⟩, hide (by simp), hI⟩
  case round =>
    obtain ⟨a, k, i, done, hk, rfl, rfl, ha, hm, hd, hi⟩ := hrel
    by_cases hlt : k < ms.length
    · obtain ⟨⟨f, t⟩, hft⟩ : ∃ x, x = ms[k] := ⟨_, rfl⟩
      have hdr : ms.drop k = (f, t) :: ms.drop (k + 1) := by rw [hft]; exact List.drop_eq_getElem_cons hlt
      obtain ⟨b, g, cp, rfl, hb1, hg1, hw1, hw2, hw3⟩ := hidx.out k f t (by rw [hft]; exact List.getElem?_eq_getElem hlt)
      have hc1 := cell_ag (hframe.out W1 done wr hi.out) hb1 hw1
      have hc2 := cell_ag (hframe.out W1 done wr hi.out) (p := ⟨g, 2, none⟩) hg1 hw2
      replace hw1 := hide hw1
      replace hw2 := hide hw2
      replace hw3 := hide hw3
      have hps : Parts s dbl (rsp s 0 ms) := ⟨ms, hms.out, rfl⟩
      obtain ⟨n, h1, h2, h3, h4, h5⟩ := hm.out.2.head hdr
      have hai := hm.out.1
      have hp : done ++ bs (s.extract a f) :: rsp s t (ms.drop (k + 1)) = rsp s 0 ms := by rw [← hd.out, hdr, ex_eq]; rfl
      replace hp := hide hp
      replace hdr := hide hdr
      replace h5 := hide h5
      clear hft
      go_wp2_with (first | ((with_reducible refine (hcall.out _ W1 done (s.extract a f) _ wr hps hp.out (by rw [extract_size _ _ _ (by omega)]; omega) hbel.out hi.out).mono ?_); rintro e w2 (⟨rfl, inv2⟩ | ⟨t', q, rfl, hJ⟩); (have hc3 := cell_ag (hframe.out W1 _ w2 inv2) (p := ⟨g, 3, none⟩) hg1 hw3.out; replace inv2 := hide inv2)))
      · exact ⟨⟨t, k + 1, n, done ++ [bs (s.extract a f)], hlt, rfl, rfl, by omega, hide ⟨by omega, h5.out⟩, hide (by rw [List.append_assoc]; exact hp.out), inv2⟩, by simp [intOf]; omega⟩
      · go_ret
        exact ⟨W1, _, hbel.out, hps, .inr ⟨t', q, rfl, _, by rw [← hp.out]; simp, hJ⟩⟩
    · have hdr : ms.drop k = [] := List.drop_eq_nil_of_le (by omega)
      have hps : Parts s dbl (rsp s 0 ms) := ⟨ms, hms.out, rfl⟩
      have hp : done ++ [bs (s.extract a s.size)] = rsp s 0 ms := by rw [← hd.out, hdr, ex_eq]; rfl
      replace hp := hide hp
      clear hdr
      go_wp2_with (first | ((with_reducible refine (hcall.out _ W1 done (s.extract a s.size) [] wr hps hp.out (by rw [extract_size _ _ _ (by omega)]; omega) hbel.out hi.out).mono ?_); rintro e w2 (⟨rfl, inv2⟩ | ⟨t', q, rfl, hJ⟩)))
      · go_ret
        exact ⟨W1, _, hbel.out, hps, .inl ⟨rfl, by rw [← hp.out]; exact inv2⟩⟩
      · go_ret
        exact ⟨W1, _, hbel.out, hps, .inr ⟨t', q, rfl, _, by rw [← hp.out]; simp, hJ⟩⟩
end Go.Proofs.YtgmbjdoifkjdhaaGreatDoor
end
section
namespace Go.Proofs.YtgmbjdoifkjdhaaGreatDoor
open Go.RowKit

theorem getElem_of_bs {s : ByteArray} {k : Nat} (h : k < s.size) {c : UInt8} (hc : (bs s)[k]? = some c) : s[k] = c := by
  rw [bs_at s k h] at hc
  injection hc
theorem br_first {s : ByteArray} {l : List UInt8} (h : bs s = 40 :: (l ++ [41])) (h0 : 0 < s.size) : s[0] = 40 := getElem_of_bs h0 (by rw [h]; rfl)
theorem br_size {s : ByteArray} {l : List UInt8} (h : bs s = 40 :: (l ++ [41])) : s.size = l.length + 2 := by rw [← bs_len, h]; simp
theorem br_last {s : ByteArray} {l : List UInt8} (h : bs s = 40 :: (l ++ [41])) (k : Nat) (hk : k + 1 = s.size) (h1 : k < s.size) : s[k] = 41 := by
  refine getElem_of_bs h1 ?_
  have := br_size h
  obtain rfl : k = l.length + 1 := by omega
  rw [h, List.getElem?_cons_succ, List.getElem?_append_right (Nat.le_refl _), Nat.sub_self]
  rfl
theorem tidy_brackets {s : ByteArray} {l : List UInt8} (h : bs s = 40 :: (l ++ [41])) : Tidy s := by
  have hlen := br_size h
  refine ⟨by omega, fun h0 => ?_, fun h1 => ?_⟩
  · rw [br_first h h0]; rfl
  · rw [br_last h _ (by omega) h1]; rfl
theorem br_inner {s : ByteArray} {l : List UInt8} (h : bs s = 40 :: (l ++ [41])) : (s.extract 1 s.size).extract 0 (s.size - 1 - 1) = tx l := by
  have hlen := br_size h
  apply bs_inj
  rw [bs_tx, bs_extract, bs_extract, take_all s s.size (by omega), List.drop_zero, h, hlen]
  show List.take (l.length + 2 - 1 - 1) (l ++ [41]) = l
  rw [show l.length + 2 - 1 - 1 = l.length by omega, List.take_append_of_le_length (Nat.le_refl _), List.take_length]
theorem not_first {t : ByteArray} {l : List UInt8} (h : bs t = 40 :: (l ++ [41])) (h0 : 0 < t.size) (hc : ((t[0].toNat : Int) == 40) = false) : False := by
  rw [br_first h h0] at hc; cases hc
theorem not_last {t : ByteArray} {l : List UInt8} (h : bs t = 40 :: (l ++ [41])) {k : Nat} (hk : k < (t.extract 1 t.size).size) (he : k = t.size - 1 - 1) (hc : (((t.extract 1 t.size)[k].toNat : Int) == 41) = false) : False := by
  have hs := br_size h
  have h2 : (t.extract 1 t.size)[k] = 41 := by
    apply getElem_of_bs hk
    subst he
    rw [bs_extract, take_all t t.size (by omega), h, hs]
    show (l ++ [41])[l.length + 2 - 1 - 1]? = _
    rw [show l.length + 2 - 1 - 1 = l.length by omega, List.getElem?_append_right (Nat.le_refl _), Nat.sub_self]
    rfl
  rw [h2] at hc; cases hc

def BrOk (s t : ByteArray) : Prop := t.size ≤ s.size ∧ ∀ l, bs s = 40 :: (l ++ [41]) → TrimR (tx l) t
def BrBad (s : ByteArray) : Prop := ∀ l, bs s ≠ 40 :: (l ++ [41])

theorem brackets_any (B : Nat) (s : ByteArray) (w : World) (hg : Glob B w) (hs : s.size ≤ 1099511627776) :
    Calls Tryz.prog 40 #[.string s] w fun e w' => (∃ t, (e = .returned (.tuple #[.string t, .nilIface]) ∧ BrOk s t) ∨ (∃ ty q, e = .returned (.tuple #[.string t, .iface ty q]) ∧ BrBad s)) ∧ Below w.heap.size w w' := by
  obtain ⟨et, ep, he1⟩ := hg.e1
  have hg := hide hg
  go_enter Tryz.func40, Tryz.ntmps40
  go_wp2_with (first
    | (go_at_call 20; (with_reducible refine (trim_any s _ ?_).mono ?_); (· omega); rintro e w' ⟨t, rfl, ⟨htl, ht1, ht⟩, rfl⟩; replace ht := hide ht; rcases Nat.eq_zero_or_pos t.size with h0 | h0)
    | (go_at_call 20; (with_reducible refine (trim_any ((t.extract 1 t.size).extract 0 (t.size - 1 - 1)) _ ?_).mono ?_); (· rw [extract_size _ _ _ (by rw [extract_size _ _ _ (Nat.le_refl _)]; omega)]; omega); rintro e w' ⟨u, rfl, hu, rfl⟩; replace hu := hide hu))
  · go_ret2
    refine ⟨⟨t, .inl ⟨rfl, htl, fun l hl => ?_⟩⟩, Below.refl _ _⟩
    have h2 := br_size hl
    have h3 := ht.out (tidy_brackets hl)
    rw [h3] at h0; omega
  · go_ret2
    refine ⟨⟨u, .inl ⟨rfl, ?_, fun l hl => ?_⟩⟩, Below.refl _ _⟩
    · have := hu.out.1
      rw [extract_size _ _ _ (by rw [extract_size _ _ _ (Nat.le_refl _)]; omega)] at this; omega
    · have h3 := ht.out (tidy_brackets hl)
      have h4 := hu.out
      rw [h3] at h4
      rwa [br_inner hl] at h4
  · go_quiet (fail)
    go_wp2
    go_ret2
    refine ⟨⟨_, .inr ⟨et, ep, rfl, fun l hl => ?_⟩⟩, below_drewN (Below.refl _ _) _⟩
    have h3 := ht.out (tidy_brackets hl)
    subst h3
    exact not_last hl _ rfl (by assumption)
  · go_quiet (fail)
    go_wp2
    go_ret2
    refine ⟨⟨_, .inr ⟨et, ep, rfl, fun l hl => ?_⟩⟩, below_drewN (Below.refl _ _) _⟩
    have h3 := ht.out (tidy_brackets hl)
    subst h3
    exact not_first hl _ (by assumption)
end Go.Proofs.YtgmbjdoifkjdhaaGreatDoor
end
section
namespace Go.Proofs.YtgmbjdoifkjdhaaGreatDoor
open Go.RowKit

def upI (s : ByteArray) (j : Nat) : Int := if h : j < s.size then (if 97 ≤ (s[j].toNat : Int) ∧ (s[j].toNat : Int) ≤ 122 then (s[j].toNat : Int) - 32 else (s[j].toNat : Int)) else 0
def UpTo (s : ByteArray) (k : Nat) (cs : Array Value) : Prop := cs.size = 20 ∧ ∀ j, j < 20 → cs[j]? = some (.int .u8 (if j < k then upI s j else 0))

theorem info5 : (Tryz.prog.info? 5).map (fun i => (i.zero, i.size, i.bytes)) = some (some (.int .u8 0), 1, 1) := by kernel_rfl
theorem under66 : Tryz.prog.underlying 66 = some (.slice 5) := by kernel_rfl
theorem made_blk {w : World} {base e g n : Nat} {cap : Nat} {z : Value} (h : w.ownsRow base e 1 (.slice (some ⟨g, 0, none⟩) n cap) n (madeCells #[z] (n * 1)).toList) (hc : cap = n) :
    ∃ cs, Blk w g e cs ∧ cs.size = n ∧ ∀ j, j < n → cs[j]? = some z := by
  rcases h.2 with ⟨h1, _⟩ | ⟨g', cap', cur, h1, _, h2, _, _, h3, h4⟩
  · cases h1
  · injection h1 with h5 h6 h7
    injection h5 with h5
    injection h5 with h5
    subst h5; subst h7; subst hc
    refine ⟨cur, h2, by omega, fun j hj => ?_⟩
    have h8 : cur.toList = (madeCells #[z] (cap * 1)).toList := by
      rw [← h4, List.take_of_length_le (by rw [Array.length_toList]; omega)]
    rw [← Array.getElem?_toList, h8, toList_madeCells_one, List.getElem?_replicate]
    rw [if_pos (by omega)]
theorem UpTo.step {s : ByteArray} {k : Nat} {cs : Array Value} (h : UpTo s k cs) {n : Int} (hn : n = upI s k) : UpTo s (k + 1) (cs.setIfInBounds k (.int .u8 n)) := by
  refine ⟨by rw [Array.size_setIfInBounds]; exact h.1, fun j hj => ?_⟩
  rw [Array.getElem?_setIfInBounds]
  by_cases hjk : k = j
  · subst hjk
    rw [if_pos rfl, if_pos (by rw [h.1]; exact hj), if_pos (by omega), hn]
  · rw [if_neg hjk, h.2 j hj]
    by_cases h2 : j < k
    · rw [if_pos h2, if_pos (by omega)]
    · rw [if_neg h2, if_neg (by omega)]
theorem UpTo.all {s : ByteArray} {k : Nat} {cs : Array Value} (h : UpTo s k cs) (hk : 20 ≤ k ∨ s.size ≤ k) : UpTo s 20 cs := by
  refine ⟨h.1, fun j hj => ?_⟩
  rw [h.2 j hj, if_pos hj]
  by_cases h2 : j < k
  · rw [if_pos h2]
  · rw [if_neg h2]
    unfold upI
    rw [dif_neg (by omega)]
theorem upI_low {s : ByteArray} {k : Nat} (hk : k < s.size) (h1 : 97 ≤ (s[k].toNat : Int)) (h2 : (s[k].toNat : Int) ≤ 122) : (s[k].toNat : Int) - 32 = upI s k := by
  unfold upI; rw [dif_pos hk, if_pos ⟨h1, h2⟩]
theorem upI_high {s : ByteArray} {k : Nat} (hk : k < s.size) (h2 : 122 < (s[k].toNat : Int)) : (s[k].toNat : Int) = upI s k := by
  unfold upI; rw [dif_pos hk, if_neg (by omega)]
theorem upI_small {s : ByteArray} {k : Nat} (hk : k < s.size) (h1 : ¬ 97 ≤ (s[k].toNat : Int)) : (s[k].toNat : Int) = upI s k := by
  unfold upI; rw [dif_pos hk, if_neg (by omega)]

set_option maxHeartbeats 1000000 in
set_option maxRecDepth 100000 in
theorem upper_any (s : ByteArray) (w : World) (hs : s.size ≤ 1099511627776) :
    Calls Tryz.prog 21 #[.string s] w fun e w' => e = .returned (.slice (some ⟨w.heap.size, 0, none⟩) 20 20) ∧ (∃ cs, UpTo s 20 cs ∧ Blk w' w.heap.size 5 cs) ∧ Below w.heap.size w w' := by
  obtain ⟨i0, hi, hz0, hz1, hz2⟩ := info_parts info5
  go_enter Tryz.func21, Tryz.ntmps21
  go_wp2_with (first | (at_make; refine wpList_make_full _ rfl _ _ 66 rfl w.heap.size 5 i0 (.int .u8 0) 1 under66 hi hz0 hz1 .i64 .i64 20 20 20 rfl rfl rfl rfl (by omega) (by decide) (Nat.le_refl _) ?_; intro w1 hown1 hgrow1))
  obtain ⟨cs0, hb0, hs0, hc0⟩ := made_blk hown1 rfl
  clear hown1
  go_loopw [4] (fun vi wr => ∃ (k : Nat) (cs : Array Value), k ≤ 20 ∧ vi = .int .i64 k ∧ k ≤ s.size ∧ Hid (UpTo s k cs ∧ Blk wr w.heap.size 5 cs ∧ Below w.heap.size w wr))
    (fun i _ => 20 - (intOf i).toNat)
  case atStart => exact ⟨0, cs0, by omega, rfl, by omega, hide ⟨⟨hs0, fun j hj => by simpa using hc0 j hj⟩, hb0, (Below.refl _ _).grown hgrow1 (Nat.le_refl _) (by simp)⟩⟩
  case round =>
    obtain ⟨k, cs, hk, rfl, hks, hh⟩ := hrel
    obtain ⟨hu, hb, hbel⟩ := hh.out
    by_cases hlt : k < s.size
    · have hcc := (hb.cell k)
      have hff := hb.frozen k
      by_cases hk20 : k < 20
      · rw [hu.2 k hk20] at hcc
        replace hb := hide hb
        replace hu := hide hu
        go_wp2
        · exact ⟨⟨k + 1, _, by omega, rfl, by omega, hide ⟨hu.out.step (upI_low hlt (by assumption) (by assumption)), hb.out.set k _, hbel.setCell (Nat.le_refl _) _⟩⟩, by simp [intOf]; omega⟩
        · exact ⟨⟨k + 1, _, by omega, rfl, by omega, hide ⟨hu.out.step (upI_high hlt (by assumption)), hb.out.set k _, hbel.setCell (Nat.le_refl _) _⟩⟩, by simp [intOf]; omega⟩
        · exact ⟨⟨k + 1, _, by omega, rfl, by omega, hide ⟨hu.out.step (upI_small hlt (by assumption)), hb.out.set k _, hbel.setCell (Nat.le_refl _) _⟩⟩, by simp [intOf]; omega⟩
      · clear hcc
        go_wp2
        go_ret
        exact ⟨rfl, ⟨cs, hu.all (.inl (by omega)), hb⟩, hbel⟩
    · replace hu := hide hu
      replace hb := hide hb
      go_wp2
      all_goals (
        go_ret
        exact ⟨rfl, ⟨cs, hu.out.all (.inr (by omega)), hb.out⟩, hbel⟩)
end Go.Proofs.YtgmbjdoifkjdhaaGreatDoor
end
section
namespace Go.Proofs.YtgmbjdoifkjdhaaGreatDoor
open Go.RowKit

/-- The members: the parts between commas outside all brackets. -/
def gsp : List UInt8 → Int → List UInt8 → List (List UInt8)
  | [], _, cur => [cur]
  | c :: t, d, cur =>
    if ((c.toNat : Int) == 40) = true then gsp t (d + 1) (cur ++ [c])
    else if ((c.toNat : Int) == 41) = true then gsp t (d - 1) (cur ++ [c])
    else if ((c.toNat : Int) == 44) = true then (if (d == 0) = true then cur :: gsp t d [] else gsp t d (cur ++ [c]))
    else gsp t d (cur ++ [c])

def StrIt (c : List Value) (u : ByteArray) (_ : World) : Prop := c = [.string u]
/-- Each part, trimmed. -/
inductive Trims : List (List UInt8) → List ByteArray → Prop
  | nil : Trims [] []
  | cons {p : List UInt8} {u : ByteArray} {ps : List (List UInt8)} {us : List ByteArray} (h : TrimR (tx p) u) (t : Trims ps us) : Trims (p :: ps) (u :: us)
theorem Trims.snoc {ps : List (List UInt8)} {us : List ByteArray} (h : Trims ps us) {p : List UInt8} {u : ByteArray} (hp : TrimR (tx p) u) : Trims (ps ++ [p]) (us ++ [u]) := by
  induction h with
  | nil => exact .cons hp .nil
  | cons h1 _ ih => exact .cons h1 ih

theorem info9 : (Tryz.prog.info? 9).map (fun i => (i.zero, i.size, i.bytes)) = some (some (.string ⟨#[]⟩), 1, 16) := by kernel_rfl
theorem under108 : Tryz.prog.underlying 108 = some (.slice 9) := by kernel_rfl

structure GcSt (w : World) (base : Nat) (s : ByteArray) (vr vd vst vi : Value) (wr : World) (k a : Nat) (d : Int) (ps : List (List UInt8)) (us : List ByteArray) : Prop where
  hi : vi = .int .i64 k
  hst : vst = .int .i64 a
  hd : vd = .int .i64 d
  hk : k ≤ s.size
  ha : a ≤ k
  hd1 : -(k : Int) ≤ d
  hd2 : d ≤ k
  hu : us.length ≤ k
  spec : Hid (ps ++ gsp ((bs s).drop k) d (ex s a k) = gsp (bs s) 0 [])
  tr : Hid (Trims ps us)
  own : Hid (Built base 9 1 StrIt vr us wr)
  bel : Hid (Below base w wr)

theorem gsp_open {s : ByteArray} {k a : Nat} {d : Int} (hk : k < s.size) (ha : a ≤ k) (h : ((s[k].toNat : Int) == 40) = true) : gsp ((bs s).drop k) d (ex s a k) = gsp ((bs s).drop (k + 1)) (d + 1) (ex s a (k + 1)) := by
  rw [bs_drop s k hk, ex_succ s a k ha hk]; simp only [gsp, h, if_true]
theorem gsp_shut {s : ByteArray} {k a : Nat} {d : Int} (hk : k < s.size) (ha : a ≤ k) (h1 : ((s[k].toNat : Int) == 40) = false) (h : ((s[k].toNat : Int) == 41) = true) : gsp ((bs s).drop k) d (ex s a k) = gsp ((bs s).drop (k + 1)) (d - 1) (ex s a (k + 1)) := by
  rw [bs_drop s k hk, ex_succ s a k ha hk]; simp only [gsp, h1, h, if_true, Bool.false_eq_true, if_false]
theorem gsp_comma {s : ByteArray} {k a : Nat} {d : Int} (hk : k < s.size) (h1 : ((s[k].toNat : Int) == 40) = false) (h2 : ((s[k].toNat : Int) == 41) = false) (h : ((s[k].toNat : Int) == 44) = true) (hd : (d == 0) = true) :
    gsp ((bs s).drop k) d (ex s a k) = bs (s.extract a k) :: gsp ((bs s).drop (k + 1)) d (ex s (k + 1) (k + 1)) := by
  rw [bs_drop s k hk, ex_self, ex_eq]; simp only [gsp, h1, h2, h, hd, if_true, Bool.false_eq_true, if_false]
theorem gsp_inner {s : ByteArray} {k a : Nat} {d : Int} (hk : k < s.size) (ha : a ≤ k) (h1 : ((s[k].toNat : Int) == 40) = false) (h2 : ((s[k].toNat : Int) == 41) = false) (h : ((s[k].toNat : Int) == 44) = true) (hd : (d == 0) = false) :
    gsp ((bs s).drop k) d (ex s a k) = gsp ((bs s).drop (k + 1)) d (ex s a (k + 1)) := by
  rw [bs_drop s k hk, ex_succ s a k ha hk]; simp only [gsp, h1, h2, h, hd, if_true, Bool.false_eq_true, if_false]
theorem gsp_other {s : ByteArray} {k a : Nat} {d : Int} (hk : k < s.size) (ha : a ≤ k) (h1 : ((s[k].toNat : Int) == 40) = false) (h2 : ((s[k].toNat : Int) == 41) = false) (h : ((s[k].toNat : Int) == 44) = false) :
    gsp ((bs s).drop k) d (ex s a k) = gsp ((bs s).drop (k + 1)) d (ex s a (k + 1)) := by
  rw [bs_drop s k hk, ex_succ s a k ha hk]; simp only [gsp, h1, h2, h, Bool.false_eq_true, if_false]
theorem gsp_end {s : ByteArray} {k a : Nat} {d : Int} (hk : ¬ k < s.size) (hk2 : k ≤ s.size) : gsp ((bs s).drop k) d (ex s a k) = [bs (s.extract a s.size)] := by
  rw [bs_drop_nil s k hk, show k = s.size by omega, ex_eq]; rfl

set_option maxHeartbeats 2000000 in
set_option maxRecDepth 100000 in
theorem gc_any (B : Nat) (s0 : ByteArray) (w : World) (hg : Glob B w) (hs0 : s0.size ≤ 1099511627776) :
    Calls Tryz.prog 59 #[.string s0] w fun e w' => ((∃ s v us, e = .returned (.tuple #[v, .nilIface]) ∧ BrOk s0 s ∧ Trims (gsp (bs s) 0 []) us ∧ us.length ≤ s.size + 1 ∧ Sup w.heap.size (IsSl 1 StrIt v us) w') ∨
      (∃ ty q, e = .returned (.tuple #[.slice none 0 0, .iface ty q]) ∧ BrBad s0)) ∧ Below w.heap.size w w' := by
  obtain ⟨i0, hi, hz0, hz1, hz2⟩ := info_parts info9
  replace hg := hide hg
  go_enter Tryz.func59, Tryz.ntmps59
  go_wp2_with (first
    | (go_at_call 40; (with_reducible refine (brackets_any B s0 _ hg.out ?_).mono ?_); (· omega); rintro e w1 ⟨⟨s, ⟨rfl, hok⟩ | ⟨ty, q, rfl, hbad⟩⟩, hbel⟩)
    | (at_make; refine wpList_make_own _ rfl _ _ 108 rfl w.heap.size 9 i0 (.string ⟨#[]⟩) 1 under108 hi hz0 hz1 .i64 .i64 0 0 rfl rfl rfl (by omega) (by decide) (by have := hbel.size; simp; omega) ?_; intro w2 hown2 hgrow2))
  · have hsz := hok.1
    replace hown2 := hide hown2
    replace hbel := hide (hbel.grown hgrow2 hbel.size (by simp))
    clear hgrow2
    go_loopw [5, 6, 7, 8] (fun vr vd vst vi wr => ∃ k a d ps us, GcSt w w.heap.size s vr vd vst vi wr k a d ps us) (fun _ _ _ i _ => s.size - (intOf i).toNat)
    case atStart => exact ⟨0, 0, 0, [], [], rfl, rfl, rfl, Nat.zero_le _, Nat.le_refl _, by decide, by decide, Nat.le_refl _, hide (by simp [ex_self]), hide .nil, hide (Built.start hown2.out), hbel⟩
    case round =>
      obtain ⟨k, a, d, ps, us, rfl, rfl, rfl, hk, ha, hd1, hd2, hul, spec, tr, own, bel⟩ := hrel
      obtain ⟨css, hb2⟩ := own.out
      have hown := hide hb2.2.2.1
      replace hb2 := hide hb2
      have hbs := hide bel.out.size
      by_cases hlt : k < s.size
      · go_wp2_with (first
          | (go_at_call 20; (with_reducible refine (trim_any (s.extract a k) _ ?_).mono ?_); (· rw [extract_size _ _ _ (by omega)]; omega); rintro e w' ⟨u, rfl, hu, rfl⟩; replace hu := hide hu)
          | (at_builtin; refine wpList_append_at _ rfl _ _ 108 rfl w.heap.size 9 i0 (.string ⟨#[]⟩) 1 16 under108 hi hz0 hz1 hz2 rfl (by decide) _ _ _ rfl (hown.out.alloc _) ⟨wr.heap.size, 0, none⟩ 1 1 [.string u] rfl (by decide) rfl (new_at wr 9 #[.string u] _ rfl) (by simp [Value.oneCell']) (by unfold maxLen; omega) (by omega) (by have := hbs.out; simp; omega) ?_; intro v' w1 hown' hgrow hv'))
        · exact ⟨⟨k + 1, a, d + 1, ps, us, rfl, rfl, rfl, hlt, by omega, by omega, by omega, by omega, hide (by rw [← gsp_open hlt ha (by assumption)]; exact spec.out), tr, own, bel⟩, by simp [intOf]; omega⟩
        · exact ⟨⟨k + 1, a, d - 1, ps, us, rfl, rfl, rfl, hlt, by omega, by omega, by omega, by omega, hide (by rw [← gsp_shut hlt ha (by assumption) (by assumption)]; exact spec.out), tr, own, bel⟩, by simp [intOf]; omega⟩
        · obtain ⟨hB, hL⟩ := BuiltC.more (x := u) hb2.out (below_alloc wr _) (Sup.pure rfl) rfl hbs.out hown' hgrow hv'
          refine ⟨⟨k + 1, k + 1, d, ps ++ [bs (s.extract a k)], us ++ [u], rfl, rfl, rfl, hlt, by omega, by omega, by omega, by rw [List.length_append, List.length_singleton]; omega, hide ?_, hide (tr.out.snoc (by rw [tx_bs]; exact hu.out)), hide hB, hide (bel.out.trans hL)⟩, by simp [intOf]; omega⟩
          rw [List.append_assoc, List.singleton_append, ← gsp_comma hlt (by assumption) (by assumption) (by assumption) (by assumption)]; exact spec.out
        · exact ⟨⟨k + 1, a, d, ps, us, rfl, rfl, rfl, hlt, by omega, by omega, by omega, by omega, hide (by rw [← gsp_inner hlt ha (by assumption) (by assumption) (by assumption) (by assumption)]; exact spec.out), tr, own, bel⟩, by simp [intOf]; omega⟩
        · exact ⟨⟨k + 1, a, d, ps, us, rfl, rfl, rfl, hlt, by omega, by omega, by omega, by omega, hide (by rw [← gsp_other hlt ha (by assumption) (by assumption) (by assumption)]; exact spec.out), tr, own, bel⟩, by simp [intOf]; omega⟩
      · go_wp2_with (first
          | (go_at_call 20; (with_reducible refine (trim_any (s.extract a s.size) _ ?_).mono ?_); (· rw [extract_size _ _ _ (by omega)]; omega); rintro e w' ⟨u, rfl, hu, rfl⟩; replace hu := hide hu)
          | (at_builtin; refine wpList_append_at _ rfl _ _ 108 rfl w.heap.size 9 i0 (.string ⟨#[]⟩) 1 16 under108 hi hz0 hz1 hz2 rfl (by decide) _ _ _ rfl (hown.out.alloc _) ⟨wr.heap.size, 0, none⟩ 1 1 [.string u] rfl (by decide) rfl (new_at wr 9 #[.string u] _ rfl) (by simp [Value.oneCell']) (by unfold maxLen; omega) (by omega) (by have := hbs.out; simp; omega) ?_; intro v' w1 hown' hgrow hv'))
        obtain ⟨hB, hL⟩ := BuiltC.more (x := u) hb2.out (below_alloc wr _) (Sup.pure rfl) rfl hbs.out hown' hgrow hv'
        go_ret2
        refine ⟨.inl ⟨s, v', us ++ [u], rfl, hok, ?_, by rw [List.length_append, List.length_singleton]; omega, hB.sup⟩, bel.out.trans hL⟩
        have hs2 := spec.out
        rw [gsp_end hlt hk] at hs2
        rw [← hs2]
        exact tr.out.snoc (by rw [tx_bs]; exact hu.out)
  · go_ret2
    exact ⟨.inr ⟨ty, q, rfl, hbad⟩, hbel⟩
end Go.Proofs.YtgmbjdoifkjdhaaGreatDoor
end
section
namespace Go.Proofs.YtgmbjdoifkjdhaaGreatDoor
open Go.RowKit

/-- What may stand inside a number: none of the bytes that part. -/
def Inner (c : UInt8) : Prop := c ≠ 32 ∧ c ≠ 44 ∧ c ≠ 40 ∧ c ≠ 41 ∧ isSp c = false ∧ cls c = false
/-- A text of numbers (NT: this text stands for these bits) that strconv.ParseFloat reads. -/
structure NumIO (NT : List UInt8 → Nat → Prop) : Prop where
  inner : ∀ l b, NT l b → ∀ c ∈ l, Inner c
  some_ : ∀ l b, NT l b → l ≠ []
  read : ∀ (B : Nat) (s : ByteArray) (w : World), Glob B w → s.size ≤ 1099511627776 →
    Calls Tryz.prog 66 #[.string s, .int .i64 64] w fun e w' => (∃ x, (e = .returned (.tuple #[.float .f64 x, .nilIface]) ∧ Fl.Good x ∧ ∀ b, NT (bs s) b → b = x) ∨ (∃ t q, e = .returned (.tuple #[.float .f64 x, .iface t q]) ∧ ∀ b, ¬ NT (bs s) b)) ∧ Below w.heap.size w w'

theorem under47 : Tryz.prog.underlying 47 = some (.array 2 36) := by kernel_rfl
theorem size47 : (Tryz.prog.info? 47).map (·.size) = some 2 := by kernel_rfl
theorem results_pt {fn : Func} {p u : Tmp} (h : fn.results = #[.cell p 47, .tmp u]) (tmps : Array Value) (w : World) (g : Nat) (x y : Value)
    (hp : tmps.getD p undef = .pointer (some ⟨g, 0, none⟩)) (hg : Blk w g 47 #[x, y]) :
    (results fn tmps).run Tryz.prog w = .ok (.tuple #[.agg #[x, y], tmps.getD u undef]) w := by
  have hp' : tmps[p]?.getD undef = .pointer (some ⟨g, 0, none⟩) := by simpa using hp
  simp [results, h, hp', asAddr, run_loadVar_row w g 47 47 #[x, y] (0, 0) _ hg under47 rfl size47]
/-- A point's text. -/
def PtText (NT : List UInt8 → Nat → Prop) (l : List UInt8) (p : Nat × Nat) : Prop := ∃ a b, l = a ++ 32 :: b ∧ NT a p.1 ∧ NT b p.2
def GoodPt (p : Nat × Nat) : Prop := Fl.Good p.1 ∧ Fl.Good p.2
def PtOk (NT : List UInt8 → Nat → Prop) (s : ByteArray) (p : Nat × Nat) : Prop := GoodPt p ∧ ∀ p', PtText NT (bs s) p' → p' = p
def PtBad (NT : List UInt8 → Nat → Prop) (s : ByteArray) : Prop := ∀ p', ¬ PtText NT (bs s) p'

theorem split_one {l a b a' b' : List UInt8} {c : UInt8} (h : l = a ++ c :: b) (h' : l = a' ++ c :: b') (ha : c ∉ a) (ha' : c ∉ a') : a' = a ∧ b' = b := by
  subst h
  induction a generalizing a' with
  | nil =>
    cases a' with
    | nil => simp at h'; exact ⟨rfl, h'.symm⟩
    | cons d t => simp at h'; exact absurd h'.1 (fun he => ha' (by simp [he]))
  | cons d t ih =>
    cases a' with
    | nil => simp at h'; exact absurd h'.1 (fun he => ha (by simp [he]))
    | cons d' t' =>
      simp at h'
      obtain ⟨h1, h2⟩ := ih (fun h => ha (by simp [h])) (fun h => ha' (by simp [h])) h'.2
      exact ⟨by rw [h1, h'.1], h2⟩
theorem cell_up {w w' : World} (h : Below w.heap.size w w') {p : Addr} {v : Value} (hc : w.cell? p = some v) : w'.cell? p = some v := (h.cell (cell_lt hc)).trans hc
theorem store_float : ∀ (a : Addr) (x : Nat) (m : Mode) (w : World), (store a (.float .f64 x) m).run Tryz.prog w = stored Tryz.prog w a (.float .f64 x) m := fun a _ m w => run_store Tryz.prog w a _ m rfl
theorem pt_cell {w : World} {g : Nat} {x y : Value} (h : Blk w g 47 #[x, y]) : w.cell? ⟨g, 0, none⟩ = some x ∧ w.cell? ⟨g, 1, none⟩ = some y ∧ w.frozen? ⟨g, 0, none⟩ = false ∧ w.frozen? ⟨g, 1, none⟩ = false :=
  ⟨h.cell 0, h.cell 1, h.frozen 0, h.frozen 1⟩
theorem Blk.two {w : World} {g : Nat} {x y : Value} (h : Blk w g 47 #[x, y]) (a b : Value) : Blk ((w.setCell ⟨g, 0, none⟩ a).setCell ⟨g, 1, none⟩ b) g 47 #[a, b] := (h.set 0 a).set 1 b
set_option maxHeartbeats 1000000 in
theorem point_any {NT : List UInt8 → Nat → Prop} (N : NumIO NT) (B : Nat) (s : ByteArray) (w : World) (hg : Glob B w) (hs : s.size ≤ 1099511627776) :
    Calls Tryz.prog 41 #[.string s] w fun e w' => (∃ p, (e = .returned (.tuple #[.agg #[.float .f64 p.1, .float .f64 p.2], .nilIface]) ∧ PtOk NT s p) ∨ (∃ t q, e = .returned (.tuple #[.agg #[.float .f64 p.1, .float .f64 p.2], .iface t q]) ∧ PtBad NT s)) ∧ Below w.heap.size w w' := by
  obtain ⟨et, ep, he1⟩ := hg.e1
  have hn1 : w.heap.size ≠ 1 := by have := hg.low; have := hg.size; omega
  have hn2 : 1 ≠ w.heap.size := fun h => hn1 h.symm
  replace hg := hide hg
  have hsf := store_float
  go_enter Tryz.func41, Tryz.ntmps41
  go_wp2_with (first
    | (go_at_call 65; (with_reducible refine (cut_any s _ ?_).mono ?_); (· omega); rintro e w1 ⟨⟨rfl, hno⟩ | ⟨a, b, rfl, hab, hna⟩, hbel⟩; all_goals (have hb1 := hide ((Blk.new w 47 #[.float .f64 0, .float .f64 0]).below hbel (by simp)); obtain ⟨c0, c1, f0, f1⟩ := pt_cell hb1.out; have hb := hide ((below_alloc w (.cells #[.float .f64 0, .float .f64 0] 47)).trans (hbel.mono (by simp))); have he2 := cell_up hb.out he1; clear hbel))
    | (go_at_call 66; (with_reducible refine (N.read B a w1 (hg.out.up hb.out) ?_).mono ?_); (· have := congrArg List.length hab; rw [List.length_append, List.length_cons, bs_len, bs_len, bs_len] at this; omega); rintro e w2 ⟨⟨x, ⟨rfl, hx, hxu⟩ | ⟨t, q, rfl, hxu⟩⟩, hbel⟩; all_goals (have hb2 := hide (hb1.out.below hbel hb1.out.lt); obtain ⟨c0, c1, f0, f1⟩ := pt_cell hb2.out; have hbb := hide (hb.out.trans (hbel.mono hb.out.size)); have he2 := cell_up hbb.out he1; clear hbel))
    | (go_at_call 66; (with_reducible refine (N.read B b w2 (hg.out.up hbb.out) ?_).mono ?_); (· have := congrArg List.length hab; rw [List.length_append, List.length_cons, bs_len, bs_len, bs_len] at this; omega); rintro e w3 ⟨⟨y, ⟨rfl, hy, hyu⟩ | ⟨t, q, rfl, hyu⟩⟩, hbel⟩; all_goals (have hb3 := hide (hb2.out.below hbel hb2.out.lt); obtain ⟨c0, c1, f0, f1⟩ := pt_cell hb3.out; have hbc := hide (hbb.out.trans (hbel.mono hbb.out.size)); have he2 := cell_up hbc.out he1; clear hbel)))
  · go_region
    go_wp2
    (try simp only [Exit.inBlock, Exit.then])
    refine bodyPost_ret (results_pt rfl _ _ w.heap.size _ _ rfl (hb1.out.two _ _)) rfl ?_
    refine ⟨⟨(0, 0), .inr ⟨et, ep, rfl, ?_⟩⟩, ((hb.out.setCell (Nat.le_refl _) _).setCell (Nat.le_refl _) _).drew⟩
    rintro p ⟨a, b, hab, _⟩
    exact hno (by rw [hab]; simp)
  · (try simp only [Exit.inBlock, Exit.then])
    refine bodyPost_ret (results_pt rfl _ _ w.heap.size _ _ rfl (hb3.out.two _ _)) rfl ?_
    refine ⟨⟨(x, y), .inl ⟨rfl, ⟨hx, hy⟩, ?_⟩⟩, (hbc.out.setCell (Nat.le_refl _) _).setCell (Nat.le_refl _) _⟩
    rintro ⟨p1, p2⟩ ⟨a', b', hab', h1, h2⟩
    obtain ⟨rfl, rfl⟩ := split_one hab hab' hna (fun h => (N.inner _ _ h1 _ h).1 rfl)
    have e1 : p1 = x := hxu _ h1
    have e2 : p2 = y := hyu _ h2
    rw [e1, e2]
  · go_region
    go_wp2
    (try simp only [Exit.inBlock, Exit.then])
    refine bodyPost_ret (results_pt rfl _ _ w.heap.size _ _ rfl (hb3.out.two _ _)) rfl ?_
    refine ⟨⟨(0, 0), .inr ⟨et, ep, rfl, ?_⟩⟩, ((hbc.out.setCell (Nat.le_refl _) _).setCell (Nat.le_refl _) _).drew⟩
    rintro ⟨p1, p2⟩ ⟨a', b', hab', h1, h2⟩
    obtain ⟨rfl, rfl⟩ := split_one hab hab' hna (fun h => (N.inner _ _ h1 _ h).1 rfl)
    exact hyu _ h2
  · go_region
    go_wp2
    (try simp only [Exit.inBlock, Exit.then])
    refine bodyPost_ret (results_pt rfl _ _ w.heap.size _ _ rfl (hb2.out.two _ _)) rfl ?_
    refine ⟨⟨(0, 0), .inr ⟨et, ep, rfl, ?_⟩⟩, ((hbb.out.setCell (Nat.le_refl _) _).setCell (Nat.le_refl _) _).drew⟩
    rintro ⟨p1, p2⟩ ⟨a', b', hab', h1, h2⟩
    obtain ⟨rfl, rfl⟩ := split_one hab hab' hna (fun h => (N.inner _ _ h1 _ h).1 rfl)
    exact hxu _ h1
end Go.Proofs.YtgmbjdoifkjdhaaGreatDoor
end
