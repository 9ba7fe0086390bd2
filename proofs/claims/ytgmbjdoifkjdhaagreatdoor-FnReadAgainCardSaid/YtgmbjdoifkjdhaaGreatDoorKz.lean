/- floatBits: the slow road's bits, good unless too large. -/
import Derived.Test.YtgmbjdoifkjdhaaGreatDoorKy
import Derived.Test.YtgmbjdoifkjdhaaGreatDoorKv
import Derived.ScopeJumps
import Derived.WalkMore
namespace Go.Proofs.YtgmbjdoifkjdhaaGreatDoor
open Go.RowKit

/-- A scope with two labels, jumped to forward alone. -/
def ExitTwo (J0 J1 : Act → World → Prop) (Q : Exit → Act → World → Prop) : Exit → Act → World → Prop
  | .goto l, a, w => (l = 0 ∧ J0 a w) ∨ (l = 1 ∧ J1 a w)
  | e, a, w => Q e a w
theorem wp_scope_two {P : Program} {a : Act} {w : World} {Q : Exit → Act → World → Prop} {c r0 r1 : Code} (J0 J1 : Act → World → Prop) (h0 : findLabel c 0 = some r0) (h1 : findLabel c 1 = some r1)
    (first : c.wp P (ExitTwo J0 J1 Q) a w) (pass0 : ∀ a w, J0 a w → r0.wp P (Exit.noGoto Q) a w) (pass1 : ∀ a w, J1 a w → r1.wp P (Exit.noGoto Q) a w) : (Code.scope c).wp P Q a w := by
  intro b k cs
  have key : ∀ (l : Nat) (r : Code), findLabel c l = some r → ∀ a w, r.wp P (Exit.noGoto Q) a w → ∃ e a' w', Q e a' w' ∧ Arrives P (lone (b.at a (.code r :: .inScope c :: k)) cs w) b k cs e a' w' := by
    intro l r _ a w hr
    obtain ⟨e, a₁, w₁, hq, harr⟩ := hr b (.inScope c :: k) cs
    cases e with
    | normal => exact ⟨.normal, a₁, w₁, hq, Steps.trans harr (.one step_inScope)⟩
    | exit id => exact ⟨.exit id, a₁, w₁, hq, fun k' hk => harr k' (by simp [exitTo, hk])⟩
    | goto l' => exact hq.elim
    | ret => exact ⟨_, a₁, w₁, hq, harr⟩
    | panic ch => exact ⟨_, a₁, w₁, hq, harr⟩
    | outgrown => exact ⟨_, a₁, w₁, hq, harr⟩
  obtain ⟨e, a₁, w₁, hq, harr⟩ := first b (.inScope c :: k) cs
  cases e with
  | normal => exact ⟨.normal, a₁, w₁, hq, .head step_scope (Steps.trans harr (.one step_inScope))⟩
  | exit id => exact ⟨.exit id, a₁, w₁, hq, fun k' hk => .head step_scope (harr k' (by simp [exitTo, hk]))⟩
  | goto l' =>
    rcases hq with ⟨rfl, hJ⟩ | ⟨rfl, hJ⟩
    · obtain ⟨e₂, a₂, w₂, hq₂, harr₂⟩ := key 0 r0 h0 a₁ w₁ (pass0 _ _ hJ)
      exact ⟨e₂, a₂, w₂, hq₂, .of_steps (.head step_scope (harr _ (by simp [gotoIn, h0]))) harr₂⟩
    · obtain ⟨e₂, a₂, w₂, hq₂, harr₂⟩ := key 1 r1 h1 a₁ w₁ (pass1 _ _ hJ)
      exact ⟨e₂, a₂, w₂, hq₂, .of_steps (.head step_scope (harr _ (by simp [gotoIn, h1]))) harr₂⟩
  | ret => exact ⟨_, a₁, w₁, hq, .of_steps (.one step_scope) harr⟩
  | panic ch => exact ⟨_, a₁, w₁, hq, .of_steps (.one step_scope) harr⟩
  | outgrown => exact ⟨_, a₁, w₁, hq, .of_steps (.one step_scope) harr⟩
def dpOf (p : Nat) (w : World) : Int := match w.cell? ⟨p, 801, none⟩ with
  | some (.int _ n) => n
  | _ => 0
def d0Of (p : Nat) (w : World) : Nat := match w.cell? ⟨p, 0, none⟩ with
  | some (.int _ n) => n.toNat
  | _ => 0
/-- The decimal under way. -/
structure FbSt (B L p : Nat) (lo hi : Int) (w wr : World) (f : Nat → Nat) (nd : Nat) (dp : Int) : Prop where
  dc : Dc wr p f nd dp
  ok : DcOk f nd
  nd0 : 0 < nd
  lo : lo ≤ dp
  hi : dp ≤ hi
  below : Below L w wr
  glob : Glob B wr
theorem FbSt.dpOf {B L p : Nat} {lo hi : Int} {w wr : World} {f : Nat → Nat} {nd : Nat} {dp : Int} (h : FbSt B L p lo hi w wr f nd dp) : dpOf p wr = dp := by
  unfold YtgmbjdoifkjdhaaGreatDoor.dpOf; rw [h.dc.cdp]
theorem FbSt.d0Of {B L p : Nat} {lo hi : Int} {w wr : World} {f : Nat → Nat} {nd : Nat} {dp : Int} (h : FbSt B L p lo hi w wr f nd dp) : d0Of p wr = f 0 := by
  unfold YtgmbjdoifkjdhaaGreatDoor.d0Of; rw [h.dc.dig 0 (by omega)]; simp
def mu1 (p : Nat) (w : World) : Nat := ((330 + dpOf p w) * 10).toNat + (d0Of p w - 48)
def mu2 (p : Nat) (w : World) : Nat := ((100 - dpOf p w) * 10).toNat + (57 - d0Of p w)
def FbRes (v : Value) : Prop := ∃ (b : Nat) (o : Bool), v = .tuple #[.int .u64 b, .bool o] ∧ b < 18446744073709551616 ∧ (o = false → Fl.Good b)
/-- What the frame holds at a label. -/
structure FbFr (p : Nat) (x : Int) (m : Nat) (o : Bool) (a : Act) : Prop where
  size : a.tmps.size = 243
  df : a.defers = []
  t0 : a.tmps[0]? = some (.pointer (some ⟨p, 0, none⟩))
  t1 : a.tmps[1]? = some (.pointer (some ⟨14, 0, none⟩))
  t5 : a.tmps[5]? = some (.bool o)
  t6 : a.tmps[6]? = some (.int .i64 x)
  t7 : a.tmps[7]? = some (.int .u64 m)
/-- At the end's label. -/
def FbJ0 (B L p : Nat) (w : World) (a : Act) (w' : World) : Prop :=
  ∃ (m : Nat) (x : Int) (o : Bool), m < 18446744073709551616 ∧ 0 ≤ x + 1023 ∧ x + 1023 < 2048 ∧ (o = false → x + 1023 < 2047) ∧ Glob B w' ∧ Below L w w' ∧ (∃ b, w'.cell? ⟨p, 802, none⟩ = some (.bool b)) ∧ FbFr p x m o a
/-- At the label of what is too large. -/
def FbJ1 (B L p : Nat) (w : World) (a : Act) (w' : World) : Prop :=
  ∃ (m : Nat) (x : Int) (o : Bool), Glob B w' ∧ Below L w w' ∧ (∃ b, w'.cell? ⟨p, 802, none⟩ = some (.bool b)) ∧ FbFr p x m o a
set_option maxRecDepth 100000 in
theorem frame243 (g : Nat → Value) : (#[g 0, g 1, g 2, g 3, g 4, g 5, g 6, g 7, g 8, g 9, g 10, g 11, g 12, g 13, g 14, g 15, g 16, g 17, g 18, g 19, g 20, g 21, g 22, g 23, g 24, g 25, g 26, g 27, g 28, g 29, g 30, g 31, g 32, g 33, g 34, g 35, g 36, g 37, g 38, g 39, g 40, g 41, g 42, g 43, g 44, g 45, g 46, g 47, g 48, g 49, g 50, g 51, g 52, g 53, g 54, g 55, g 56, g 57, g 58, g 59, g 60, g 61, g 62, g 63, g 64, g 65, g 66, g 67, g 68, g 69, g 70, g 71, g 72, g 73, g 74, g 75, g 76, g 77, g 78, g 79, g 80, g 81, g 82, g 83, g 84, g 85, g 86, g 87, g 88, g 89, g 90, g 91, g 92, g 93, g 94, g 95, g 96, g 97, g 98, g 99, g 100, g 101, g 102, g 103, g 104, g 105, g 106, g 107, g 108, g 109, g 110, g 111, g 112, g 113, g 114, g 115, g 116, g 117, g 118, g 119, g 120, g 121, g 122, g 123, g 124, g 125, g 126, g 127, g 128, g 129, g 130, g 131, g 132, g 133, g 134, g 135, g 136, g 137, g 138, g 139, g 140, g 141, g 142, g 143, g 144, g 145, g 146, g 147, g 148, g 149, g 150, g 151, g 152, g 153, g 154, g 155, g 156, g 157, g 158, g 159, g 160, g 161, g 162, g 163, g 164, g 165, g 166, g 167, g 168, g 169, g 170, g 171, g 172, g 173, g 174, g 175, g 176, g 177, g 178, g 179, g 180, g 181, g 182, g 183, g 184, g 185, g 186, g 187, g 188, g 189, g 190, g 191, g 192, g 193, g 194, g 195, g 196, g 197, g 198, g 199, g 200, g 201, g 202, g 203, g 204, g 205, g 206, g 207, g 208, g 209, g 210, g 211, g 212, g 213, g 214, g 215, g 216, g 217, g 218, g 219, g 220, g 221, g 222, g 223, g 224, g 225, g 226, g 227, g 228, g 229, g 230, g 231, g 232, g 233, g 234, g 235, g 236, g 237, g 238, g 239, g 240, g 241, g 242] : Array Value) = ((List.range 243).map g).toArray := by kernel_rfl
theorem frame_of (t : Array Value) (h : t.size = 243) : t = ((List.range 243).map fun i => t[i]?.getD undef).toArray := by
  apply Array.ext
  · simp [h]
  · intro i h1 h2
    simp [Array.getElem?_eq_getElem h1]
theorem powtab_at (n : Nat) (h : n < 9) : 1 ≤ powtabN n ∧ powtabN n ≤ 26 := by
  have : ((List.range 9).all fun n => decide (1 ≤ powtabN n ∧ powtabN n ≤ 26)) = true := by kernel_rfl
  have := List.all_eq_true.mp this n (List.mem_range.mpr h)
  simpa using this

theorem shl_box (k : Nat) (K : Nat) (hK : 2 ^ k = K) : (1 : Int) * 2 ^ k = K := by rw [← hK]; simp
set_option maxRecDepth 100000 in
set_option maxHeartbeats 8000000 in
theorem fbits_any (B L p : Nat) (f : Nat → Nat) (nd : Nat) (dp : Int) (w : World) (hG : Glob B w) (h : Dc w p f nd dp) (hok : DcOk f nd) (hL : L ≤ p) (hBL : B ≤ L) :
    Calls Tryz.prog 141 #[.pointer (some ⟨p, 0, none⟩), .pointer (some ⟨14, 0, none⟩)] w fun e w' => (∃ v, e = .returned v ∧ FbRes v) ∧ Below L w w' := by
  have hcn := h.cnd
  have hcp := h.cdp
  have hcb := hide h.cneg
  have hfb := hG.fb
  replace h := hide h
  replace hok := hide hok
  replace hG := hide hG
  go_enter Tryz.func141, Tryz.ntmps141
  go_wp2
  refine wp_scope_two (FbJ0 B L p w) (FbJ1 B L p w) (by rfl) (by rfl) ?first ?pass0 ?pass1
  case first =>
    as_aux_lemma =>
    by_cases hz : nd = 0
    · subst hz
      go_wp2
      go_step3
      exact .inl ⟨rfl, 0, -1023, false, by omega, by omega, by omega, fun _ => by omega, hG.out, Below.refl _ _, hcb.out, rfl, rfl, rfl, rfl, rfl, rfl, rfl⟩
    have hz2 : ((nd : Int) == 0) = false := by simp; omega
    by_cases h310 : 310 < dp
    · go_wp2
      go_step3
      exact .inr ⟨rfl, _, _, _, hG.out, Below.refl _ _, hcb.out, rfl, rfl, rfl, rfl, rfl, rfl, rfl⟩
    by_cases h330 : dp < -330
    · go_wp2
      go_step3
      exact .inl ⟨rfl, 0, -1023, false, by omega, by omega, by omega, fun _ => by omega, hG.out, Below.refl _ _, hcb.out, rfl, rfl, rfl, rfl, rfl, rfl, rfl⟩
    have hS : Hid (FbSt B L p (-330) 310 w w f nd dp) := hide ⟨h.out, hok.out, by omega, by omega, by omega, Below.refl _ _, hG.out⟩
    go_upto_block 0 with (fail)
    clear hcn hcp hfb
    go_cut [6] (fun s6 wq => ∃ x : Int, s6 = .int .i64 x ∧ 0 ≤ x ∧ x ≤ 200000 ∧ Hid (∃ f nd dp, FbSt B L p (-330) 0 w wq f nd dp))
    case first =>
      as_aux_lemma =>
      go_wp2
      go_loopw [6] (fun s6 wr => ∃ x : Int, s6 = .int .i64 x ∧ 0 ≤ x ∧ Hid (x + 27 * mu1 p wr ≤ 180000) ∧ x ≤ 200000 ∧ Hid (∃ f nd dp, FbSt B L p (-330) 310 w wr f nd dp)) (fun _ wr => mu1 p wr)
      case atStart =>
        refine ⟨0, rfl, by omega, hide ?_, by omega, hide ⟨f, nd, dp, hS.out⟩⟩
        unfold mu1
        rw [hS.out.dpOf, hS.out.d0Of]
        have := hS.out.ok.dig 0 hS.out.nd0
        omega
      case round =>
        obtain ⟨x, rfl, x0, hmu, x1, hD⟩ := hrel
        obtain ⟨f1, nd1, dp1, hs⟩ := hD.out
        have hcp := hs.dc.cdp
        obtain ⟨tb, tf, _, htab, htc⟩ := hs.glob.pt
        have hlo := hs.lo
        have hhi := hs.hi
        have hdg := hs.ok.dig 0 hs.nd0
        have e1 := hs.dpOf
        have e2 := hs.d0Of
        have hmu' := hmu.out
        unfold mu1 at hmu'
        rw [e1, e2] at hmu'
        by_cases hpos : 0 < dp1
        · have hx2 : x ≤ 179000 := by omega
          have fin : ∀ (q : Nat) (w2 : World), 1 ≤ q → q ≤ 27 → ShrOut L p f1 dp1 q wr w2 → (0 ≤ x + q ∧ Hid ((x + q) + 27 * mu1 p w2 ≤ 180000) ∧ x + q ≤ 200000 ∧ Hid (∃ f nd dp, FbSt B L p (-330) 310 w w2 f nd dp)) ∧ mu1 p w2 < mu1 p wr := by
            intro q w2 q1 q2 ho
            obtain ⟨⟨f2, nd2, r, j1, j2, j3, j4, j5⟩, hb⟩ := ho
            have hs2 : FbSt B L p (-330) 310 w w2 f2 nd2 (dp1 - r) := ⟨j1, j2, j3, by omega, by omega, hs.below.trans hb, hs.glob.below (hb.mono hBL)⟩
            have hdg2 := j2.dig 0 j3
            have hlt : mu1 p w2 < mu1 p wr := by
              unfold mu1
              rw [e1, e2, hs2.dpOf, hs2.d0Of]
              by_cases hr : r = 0
              · have := j5 hr (by omega); subst hr; omega
              · omega
            refine ⟨⟨by omega, hide ?_, by omega, hide ⟨f2, nd2, _, hs2⟩⟩, hlt⟩
            have := hmu.out
            omega
          by_cases h9 : 9 ≤ dp1
          · have hcall : ∀ n, Calls Tryz.prog 103 #[.pointer (some ⟨p, 0, none⟩), .int .i64 (-27)] (wr.drewN n) fun e w' => e = .returned (.tuple #[]) ∧ ShrOut L p f1 dp1 27 (wr.drewN n) w' :=
              fun n => shr_any L p f1 nd1 27 dp1 (wr.drewN n) (hs.dc.drewN n) hs.ok hs.nd0 hL (by omega) (by omega) (by omega) (by omega)
            replace hcall := hide hcall
            replace fin := hide fin
            clear hmu' e1 e2 hdg htc
            go_wp2
            go_quiet (fail)
            go_wp2_with (first
              | (go_at_call 103; refine (hcall.out _).mono ?_; rintro e w2 ⟨rfl, ho⟩; (have hf := hide (fin.out 27 w2 (by omega) (by omega) ⟨ho.dc, (below_drewN (Below.refl _ _) _).trans ho.below⟩)); clear ho))
            obtain ⟨⟨g1, g2, g3, g4⟩, g5⟩ := hf.out
            exact ⟨⟨x + 27, rfl, g1, g2, g3, g4⟩, g5⟩
          · obtain ⟨n, rfl⟩ : ∃ n : Nat, dp1 = n := ⟨dp1.toNat, by omega⟩
            have hn9 : n < 9 := by omega
            have hq := htc n hn9
            obtain ⟨q1, q2⟩ := powtab_at n hn9
            obtain ⟨q, hqq⟩ : ∃ q, powtabN n = q := ⟨_, rfl⟩
            rw [hqq] at hq q1 q2
            have hcall : ∀ n', Calls Tryz.prog 103 #[.pointer (some ⟨p, 0, none⟩), .int .i64 (-(q : Int))] (wr.drewN n') fun e w' => e = .returned (.tuple #[]) ∧ ShrOut L p f1 n q (wr.drewN n') w' :=
              fun n' => shr_any L p f1 nd1 q n (wr.drewN n') (hs.dc.drewN n') hs.ok hs.nd0 hL (by omega) (by omega) (by omega) (by omega)
            replace hcall := hide hcall
            replace fin := hide fin
            clear hmu' e1 e2 hdg htc hqq
            go_wp2
            go_quiet (fail)
            go_wp2
            go_quiet (fail)
            go_wp2_with (first
              | (go_at_call 103; refine (hcall.out _).mono ?_; rintro e w2 ⟨rfl, ho⟩; (have hf := hide (fin.out q w2 (by omega) (by omega) ⟨ho.dc, (below_drewN (Below.refl _ _) _).trans ho.below⟩)); clear ho))
            obtain ⟨⟨g1, g2, g3, g4⟩, g5⟩ := hf.out
            exact ⟨⟨x + q, rfl, g1, g2, g3, g4⟩, g5⟩
        · have hs2 : FbSt B L p (-330) 0 w wr f1 nd1 dp1 := ⟨hs.dc, hs.ok, hs.nd0, hs.lo, by omega, hs.below, hs.glob⟩
          replace hs2 := hide hs2
          clear hmu' e1 e2 hdg htc hs
          go_wp2
          go_meet; case rel => exact ⟨x, rfl, x0, x1, hide ⟨f1, nd1, dp1, hs2.out⟩⟩
    case rest =>
    as_aux_lemma =>
    clear hS h hok
    obtain ⟨x1, rfl, hx0, hx1, hD1⟩ := hcut
    go_upto_block 2 with (fail)
    go_cut [6] (fun s6 wq => ∃ x : Int, s6 = .int .i64 x ∧ -200000 ≤ x ∧ x ≤ 200000 ∧ Hid (∃ f nd dp, FbSt B L p 0 20 w wq f nd dp))
    case first =>
      as_aux_lemma =>
      go_wp2
      go_loopw [6] (fun s6 wr => ∃ x : Int, s6 = .int .i64 x ∧ x ≤ 200000 ∧ Hid (27 * mu2 p wr - 150000 ≤ x) ∧ -200000 ≤ x ∧ Hid (∃ f nd dp, FbSt B L p (-330) 20 w wr f nd dp)) (fun _ wr => mu2 p wr)
      case atStart =>
        obtain ⟨f, nd, dp, hs⟩ := hD1.out
        refine ⟨x1, rfl, hx1, hide ?_, by omega, hide ⟨f, nd, dp, hs.dc, hs.ok, hs.nd0, hs.lo, by have := hs.hi; omega, hs.below, hs.glob⟩⟩
        unfold mu2
        rw [hs.dpOf, hs.d0Of]
        have := hs.ok.dig 0 hs.nd0
        have := hs.lo
        omega
      case round =>
        obtain ⟨x, rfl, x2, hmu, x3, hD⟩ := hrel
        obtain ⟨f1, nd1, dp1, hs⟩ := hD.out
        have hcp := hs.dc.cdp
        have hc0 := hs.dc.dig 0 (by omega)
        obtain ⟨tb, tf, _, htab, htc⟩ := hs.glob.pt
        have hlo := hs.lo
        have hhi := hs.hi
        have hdg := hs.ok.dig 0 hs.nd0
        have e1 := hs.dpOf
        have e2 := hs.d0Of
        have hmu' := hmu.out
        unfold mu2 at hmu'
        rw [e1, e2] at hmu'
        obtain ⟨c0, hcc⟩ : ∃ c0, f1 0 = c0 := ⟨_, rfl⟩
        by_cases hgo : dp1 < 0 ∨ (dp1 = 0 ∧ c0 < 53)
        · have hx2 : -149000 ≤ x := by omega
          have fin : ∀ (q : Nat) (w2 : World), 1 ≤ q → q ≤ 27 → (∃ (f' : Nat → Nat) (nd' r : Nat), Dc w2 p f' nd' (dp1 + r) ∧ DcOk f' nd' ∧ 0 < nd' ∧ r ≤ 20 ∧ (r = 0 → f1 0 < f' 0)) → Below L wr w2 → (x - q ≤ 200000 ∧ Hid (27 * mu2 p w2 - 150000 ≤ x - q) ∧ -200000 ≤ x - q ∧ Hid (∃ f nd dp, FbSt B L p (-330) 20 w w2 f nd dp)) ∧ mu2 p w2 < mu2 p wr := by
            intro q w2 q1 q2 ho hb
            obtain ⟨f2, nd2, r, j1, j2, j3, j4, j5⟩ := ho
            have hs2 : FbSt B L p (-330) 20 w w2 f2 nd2 (dp1 + r) := ⟨j1, j2, j3, by omega, by omega, hs.below.trans hb, hs.glob.below (hb.mono hBL)⟩
            have hdg2 := j2.dig 0 j3
            have hlt : mu2 p w2 < mu2 p wr := by
              unfold mu2
              rw [e1, e2, hs2.dpOf, hs2.d0Of]
              by_cases hr : r = 0
              · have := j5 hr; subst hr; omega
              · omega
            refine ⟨⟨by omega, hide ?_, by omega, hide ⟨f2, nd2, _, hs2⟩⟩, hlt⟩
            have := hmu.out
            omega
          have hshl : ∀ q : Nat, 1 ≤ q → q ≤ 27 → ∀ n, Calls Tryz.prog 103 #[.pointer (some ⟨p, 0, none⟩), .int .i64 q] (wr.drewN n) fun e w' => e = .returned (.tuple #[]) ∧ (∃ (f' : Nat → Nat) (nd' r : Nat), Dc w' p f' nd' (dp1 + r) ∧ DcOk f' nd' ∧ 0 < nd' ∧ r ≤ 20 ∧ (r = 0 → f1 0 < f' 0)) ∧ Below L (wr.drewN n) w' :=
            fun q q1 q2 n => shl_one B L p f1 nd1 q dp1 (wr.drewN n) (hs.glob.drewN n) (hs.dc.drewN n) hs.ok hs.nd0 hL q1 (by omega) (by omega) (by omega)
          replace hshl := hide hshl
          replace fin := hide fin
          rw [hcc] at hc0
          by_cases h9 : dp1 ≤ -9
          · have h9' : 9 ≤ -dp1 := by omega
            have hneg : dp1 < 0 := by omega
            clear hmu' e1 e2 hdg htc hgo hs hcc
            have hcall := hshl.out 27 (by omega) (by omega)
            replace hcall := hide hcall
            go_wp2
            go_quiet (fail)
            go_wp2_with (first
              | (go_at_call 103; refine (hcall.out _).mono ?_; rintro e w2 ⟨rfl, ho, hb⟩; (have hf := hide (fin.out 27 w2 (by omega) (by omega) ho ((below_drewN (Below.refl _ _) _).trans hb))); clear ho hb))
            obtain ⟨⟨g1, g2, g3, g4⟩, g5⟩ := hf.out
            exact ⟨⟨x - 27, rfl, g1, g2, g3, g4⟩, g5⟩
          · obtain ⟨n, rfl⟩ : ∃ n : Nat, dp1 = -(n : Int) := ⟨(-dp1).toNat, by omega⟩
            have hn9 : n < 9 := by omega
            have hq := htc n hn9
            obtain ⟨q1, q2⟩ := powtab_at n hn9
            obtain ⟨q, hqq⟩ : ∃ q, powtabN n = q := ⟨_, rfl⟩
            rw [hqq] at hq q1 q2
            have hcall := hshl.out q (by omega) (by omega)
            replace hcall := hide hcall
            by_cases hn0 : n = 0
            · subst hn0
              have hc5 : c0 < 53 := by omega
              have hq0 : wr.cell? ⟨tb, tf, none⟩ = some (.int .i64 q) := by simpa using hq
              clear hmu' e1 e2 hdg htc hgo hs hcc hqq
              go_wp2
              go_quiet (fail)
              go_wp2
              go_quiet (fail)
              go_wp2_with (first
                | (go_at_call 103; refine (hcall.out _).mono ?_; rintro e w2 ⟨rfl, ho, hb⟩; (have hf := hide (fin.out q w2 (by omega) (by omega) ho ((below_drewN (Below.refl _ _) _).trans hb))); clear ho hb))
              obtain ⟨⟨g1, g2, g3, g4⟩, g5⟩ := hf.out
              exact ⟨⟨x - q, rfl, g1, g2, g3, g4⟩, g5⟩
            · have hneg : 0 < n := by omega
              clear hmu' e1 e2 hdg htc hgo hs hcc hqq
              go_wp2
              go_quiet (fail)
              go_wp2
              go_quiet (fail)
              go_wp2_with (first
                | (go_at_call 103; refine (hcall.out _).mono ?_; rintro e w2 ⟨rfl, ho, hb⟩; (have hf := hide (fin.out q w2 (by omega) (by omega) ho ((below_drewN (Below.refl _ _) _).trans hb))); clear ho hb))
              obtain ⟨⟨g1, g2, g3, g4⟩, g5⟩ := hf.out
              exact ⟨⟨x - q, rfl, g1, g2, g3, g4⟩, g5⟩
        · have hs2 : FbSt B L p 0 20 w wr f1 nd1 dp1 := ⟨hs.dc, hs.ok, hs.nd0, by omega, hs.hi, hs.below, hs.glob⟩
          replace hs2 := hide hs2
          rw [hcc] at hc0
          by_cases hz0 : dp1 = 0
          · subst hz0
            have hc5 : ¬ c0 < 53 := by omega
            clear hmu' e1 e2 hdg htc hs hcc hgo
            go_wp2
            go_meet; case rel => exact ⟨x, rfl, x3, x2, hide ⟨f1, nd1, 0, hs2.out⟩⟩
          · have hz1 : 0 < dp1 := by omega
            clear hmu' e1 e2 hdg htc hs hcc hgo
            go_wp2
            go_meet; case rel => exact ⟨x, rfl, x3, x2, hide ⟨f1, nd1, dp1, hs2.out⟩⟩
    case rest =>
    as_aux_lemma =>
    clear hD1 hx0 hx1
    obtain ⟨x2, rfl, hx0, hx1, hD2⟩ := hcut
    obtain ⟨f, nd2, dp2, hs⟩ := hD2.out
    have hfb := hs.glob.fb
    have hcall : ∀ (k : Nat) (z : Int), 1 ≤ k → k ≤ 300000 → z = -(k : Int) → Calls Tryz.prog 103 #[.pointer (some ⟨p, 0, none⟩), .int .i64 z] wc fun e w' => e = .returned (.tuple #[]) ∧ ShrOut L p f dp2 k wc w' := fun k z h1 h2 hz => by
      subst hz
      exact shr_any L p f nd2 k dp2 wc hs.dc hs.ok hs.nd0 hL h1 h2 (by have := hs.lo; omega) (by have := hs.hi; omega)
    replace hcall := hide hcall
    replace hs := hide hs
    go_upto_if 111 with (fail)
    go_cut [6] (fun s6 wq => ∃ y : Int, s6 = .int .i64 y ∧ -1022 ≤ y ∧ y ≤ 200000 ∧ Hid (∃ f nd dp, FbSt B L p (-300000) 20 w wq f nd dp))
    case first =>
      as_aux_lemma =>
      by_cases hlt : x2 - 1 < -1022
      · go_wp2_with (first
          | (go_at_call 103; refine (hcall.out (-1021 - x2).toNat _ (by omega) (by omega) (by omega)).mono ?_; rintro e w2 ⟨rfl, ho⟩; replace ho := hide ho))
        go_meet; case rel =>
          obtain ⟨⟨f2, nd3, r, j1, j2, j3, j4, _⟩, hb⟩ := ho.out
          have hlo := hs.out.lo
          have hhi := hs.out.hi
          exact ⟨-1022, vint (by omega), by omega, by omega, hide ⟨f2, nd3, _, j1, j2, j3, by omega, by omega, hs.out.below.trans hb, hs.out.glob.below (hb.mono hBL)⟩⟩
      · go_wp2
        go_meet; case rel =>
          have hlo := hs.out.lo
          have hhi := hs.out.hi
          exact ⟨x2 - 1, rfl, by omega, by omega, hide ⟨f, nd2, dp2, hs.out.dc, hs.out.ok, hs.out.nd0, by omega, hhi, hs.out.below, hs.out.glob⟩⟩
    case rest =>
    as_aux_lemma =>
    clear hcall hs hfb hD2
    clear f nd2 dp2
    obtain ⟨y, rfl, hy0, hy1, hD3⟩ := hcut
    obtain ⟨f, nd2, dp2, hs⟩ := hD3.out
    have hlo := hs.lo
    have hhi := hs.hi
    have hfb := hs.glob.fb
    have hfe := hs.glob.fe
    have hfm := hs.glob.fm
    have hcn := hide hs.dc.cneg
    have ey : IntKind.i64.wrap (y - -1023) = y + 1023 := by rw [IntKind.wrap_i64]; omega
    by_cases hov : 2047 ≤ y + 1023
    · replace hs := hide hs
      go_wp2
      go_quiet (fail)
      go_wp2
      go_step3
      exact .inr ⟨rfl, _, _, _, hs.out.glob.drewN _, below_drewN hs.out.below _, hcn.out, rfl, rfl, rfl, rfl, rfl, rfl, rfl⟩
    · have hcall : ∀ n, Calls Tryz.prog 103 #[.pointer (some ⟨p, 0, none⟩), .int .i64 53] (wc.drewN n) fun e w' => e = .returned (.tuple #[]) ∧ (∃ (f' : Nat → Nat) (nd' r : Nat), Dc w' p f' nd' (dp2 + r) ∧ DcOk f' nd' ∧ 0 < nd' ∧ r ≤ 20 ∧ (r = 0 → f 0 < f' 0)) ∧ Below L (wc.drewN n) w' :=
        fun n => shl_one B L p f nd2 53 dp2 (wc.drewN n) (hs.glob.drewN n) (hs.dc.drewN n) hs.ok hs.nd0 hL (by omega) (by omega) (by omega) (by omega)
      replace hcall := hide hcall
      replace hs := hide hs
      go_wp2
      go_quiet (fail)
      go_upto_if 155 with (first
        | (go_at_call 103; refine (hcall.out _).mono ?_; rintro e w2 ⟨rfl, ho, hb⟩; (have hg2 := hide (hs.out.glob.below (((below_drewN (Below.refl _ _) _).trans hb).mono hBL))); (have hb2 := hide (hs.out.below.trans ((below_drewN (Below.refl _ _) _).trans hb))); clear hb; obtain ⟨f2, nd3, r, j1, j2, j3, j4, _⟩ := ho; (have hcn2 := hide j1.cneg); replace j1 := hide j1; replace j2 := hide j2; (have hfb2 := hg2.out.fb); (have hfe2 := hg2.out.fe); (have hfm2 := hg2.out.fm))
        | (go_at_call 157; refine (rint_any p f2 nd3 (dp2 + r) _ j1.out j2.out (by omega) (by omega)).mono ?_; rintro e w3 ⟨⟨m, rfl, hm⟩, rfl⟩; replace hm := hide hm))
      clear hcall hs hD3 hfb hfe hfm hcn hlo hhi
      go_cut [6, 7] (fun s6 s7 wq => ∃ (x : Int) (m : Nat), s6 = .int .i64 x ∧ s7 = .int .u64 m ∧ -1022 ≤ x ∧ x ≤ 1023 ∧ Hid (m < 18446744073709551616) ∧ Hid (∃ n, wq = w2.drewN n))
      case first =>
        as_aux_lemma =>
        by_cases he : m = 9007199254740992
        · subst he
          have ey2 : IntKind.i64.wrap (y + 1 - -1023) = y + 1 + 1023 := by rw [IntKind.wrap_i64]; omega
          by_cases hov2 : 2047 ≤ y + 1 + 1023
          · go_wp2
            go_quiet (fail)
            go_wp2
            go_step3
            exact .inr ⟨rfl, _, _, _, hg2.out.drewN _, below_drewN hb2.out _, hcn2.out, rfl, rfl, rfl, rfl, rfl, rfl, rfl⟩
          · go_wp2
            go_quiet (fail)
            go_wp2
            go_meet; case rel => exact ⟨y + 1, 4503599627370496, rfl, rfl, by omega, by omega, hide (by decide), hide ⟨_, rfl⟩⟩
        · have he2 : ((m : Int) == 9007199254740992) = false := by simp; omega
          go_wp2
          go_meet; case rel => exact ⟨y, m, rfl, rfl, by omega, by omega, hm, hide ⟨0, rfl⟩⟩
      case rest =>
      as_aux_lemma =>
      obtain ⟨x3, m3, rfl, rfl, hy2, hy3, hm3, ⟨q3, rfl⟩⟩ := hcut
      have ha := and52 m3 hm3.out
      obtain ⟨q, hqq⟩ : ∃ q, m3 / 4503599627370496 % 2 * 4503599627370496 = q := ⟨_, rfl⟩
      rw [hqq] at ha
      clear hqq hov ey hy0 hy1
      by_cases hq0 : q = 0
      · subst hq0
        go_wp2
        go_step3
        exact .inl ⟨rfl, m3, -1023, false, hm3.out, by omega, by omega, fun _ => by omega, hg2.out.drewN _, below_drewN hb2.out _, hcn2.out, rfl, rfl, rfl, rfl, rfl, rfl, rfl⟩
      · have hq1 : ((q : Int) == 0) = false := by simp; omega
        go_wp2
        go_step3
        exact .inl ⟨rfl, m3, x3, false, hm3.out, by omega, by omega, fun _ => by omega, hg2.out.drewN _, below_drewN hb2.out _, hcn2.out, rfl, rfl, rfl, rfl, rfl, rfl, rfl⟩
  case pass0 =>
    as_aux_lemma =>
    rintro ⟨tm, df⟩ w' ⟨m, x, o, hm, hx0, hx1, hxo, hG', hbel, ⟨ng, hng⟩, ⟨hsz, hdf, f0, f1, f5, f6, f7⟩⟩
    obtain ⟨g, hg⟩ : ∃ g : Nat → Value, g = fun i => tm[i]?.getD undef := ⟨_, rfl⟩
    have htm := frame_of tm hsz
    have g0 : g 0 = .pointer (some ⟨p, 0, none⟩) := by rw [hg]; show tm[0]?.getD undef = _; rw [show tm[0]? = _ from f0]; rfl
    have g1 : g 1 = .pointer (some ⟨14, 0, none⟩) := by rw [hg]; show tm[1]?.getD undef = _; rw [show tm[1]? = _ from f1]; rfl
    have g5 : g 5 = .bool o := by rw [hg]; show tm[5]?.getD undef = _; rw [show tm[5]? = _ from f5]; rfl
    have g6 : g 6 = .int .i64 x := by rw [hg]; show tm[6]?.getD undef = _; rw [show tm[6]? = _ from f6]; rfl
    have g7 : g 7 = .int .u64 m := by rw [hg]; show tm[7]?.getD undef = _; rw [show tm[7]? = _ from f7]; rfl
    have htm2 : tm = #[g 0, g 1, g 2, g 3, g 4, g 5, g 6, g 7, g 8, g 9, g 10, g 11, g 12, g 13, g 14, g 15, g 16, g 17, g 18, g 19, g 20, g 21, g 22, g 23, g 24, g 25, g 26, g 27, g 28, g 29, g 30, g 31, g 32, g 33, g 34, g 35, g 36, g 37, g 38, g 39, g 40, g 41, g 42, g 43, g 44, g 45, g 46, g 47, g 48, g 49, g 50, g 51, g 52, g 53, g 54, g 55, g 56, g 57, g 58, g 59, g 60, g 61, g 62, g 63, g 64, g 65, g 66, g 67, g 68, g 69, g 70, g 71, g 72, g 73, g 74, g 75, g 76, g 77, g 78, g 79, g 80, g 81, g 82, g 83, g 84, g 85, g 86, g 87, g 88, g 89, g 90, g 91, g 92, g 93, g 94, g 95, g 96, g 97, g 98, g 99, g 100, g 101, g 102, g 103, g 104, g 105, g 106, g 107, g 108, g 109, g 110, g 111, g 112, g 113, g 114, g 115, g 116, g 117, g 118, g 119, g 120, g 121, g 122, g 123, g 124, g 125, g 126, g 127, g 128, g 129, g 130, g 131, g 132, g 133, g 134, g 135, g 136, g 137, g 138, g 139, g 140, g 141, g 142, g 143, g 144, g 145, g 146, g 147, g 148, g 149, g 150, g 151, g 152, g 153, g 154, g 155, g 156, g 157, g 158, g 159, g 160, g 161, g 162, g 163, g 164, g 165, g 166, g 167, g 168, g 169, g 170, g 171, g 172, g 173, g 174, g 175, g 176, g 177, g 178, g 179, g 180, g 181, g 182, g 183, g 184, g 185, g 186, g 187, g 188, g 189, g 190, g 191, g 192, g 193, g 194, g 195, g 196, g 197, g 198, g 199, g 200, g 201, g 202, g 203, g 204, g 205, g 206, g 207, g 208, g 209, g 210, g 211, g 212, g 213, g 214, g 215, g 216, g 217, g 218, g 219, g 220, g 221, g 222, g 223, g 224, g 225, g 226, g 227, g 228, g 229, g 230, g 231, g 232, g 233, g 234, g 235, g 236, g 237, g 238, g 239, g 240, g 241, g 242] := by rw [frame243, hg]; exact htm
    rw [g0, g1, g5, g6, g7] at htm2
    clear g0 g1 g5 g6 g7 f0 f1 f5 f6 f7 htm hg hsz
    subst htm2
    obtain rfl : df = [] := hdf
    obtain ⟨e, rfl⟩ : ∃ e : Nat, x = (e : Int) - 1023 := ⟨(x + 1023).toNat, by omega⟩
    have he : e < 2048 := by omega
    have hfb := hG'.fb
    have hfe := hG'.fe
    have hfm := hG'.fm
    have hm52 := mask52 m hm
    have hf : m % 4503599627370496 < 4503599627370496 := Nat.mod_lt _ (by decide)
    obtain ⟨f1, hff⟩ : ∃ f, m % 4503599627370496 = f := ⟨_, rfl⟩
    rw [hff] at hm52 hf
    have hm11 := mask11 e he
    have hj := join52 f1 e hf he
    have hb : e * 4503599627370496 + f1 < 9223372036854775808 := by omega
    obtain ⟨bb, hbb⟩ : ∃ bb, e * 4503599627370496 + f1 = bb := ⟨_, rfl⟩
    have hgood : Hid (o = false → bb ≤ 9218868437227405312) := hide (fun h => by have := hxo h; omega)
    rw [hbb] at hj hb
    have hj63 := join63 bb hb
    have ew : IntKind.i64.wrap ((e : Int) - 1023 - -1023) = e := by rw [IntKind.wrap_i64]; omega
    clear hG hcb hok h hcn hcp hff hbb hxo hG' hx0 hx1
    replace hm := hide hm
    replace hbel := hide hbel
    go_wp2
    have hend : ∀ (bx : Nat), (bx = bb ∨ bx = bb + 9223372036854775808) → FbRes (.tuple #[.int .u64 bx, .bool o]) := by
      intro bx hx
      refine ⟨bx, o, rfl, by omega, fun ho => ?_⟩
      have := hgood.out ho
      unfold Fl.Good
      omega
    replace hend := hide hend
    go_quiet (fail)
    cases ng
    · go_wp2
      (try simp only [Exit.noGoto_ret])
      go_ret2
      exact ⟨⟨_, rfl, hend.out bb (.inl rfl)⟩, below_drewN hbel.out _⟩
    · go_wp2
      go_quiet (fail)
      go_wp2
      (try simp only [Exit.noGoto_ret])
      go_ret2
      exact ⟨⟨_, rfl, hend.out _ (.inr rfl)⟩, below_drewN (below_drewN hbel.out _) _⟩
  case pass1 =>
    as_aux_lemma =>
    rintro ⟨tm, df⟩ w' ⟨m, x, o, hG', hbel, ⟨ng, hng⟩, ⟨hsz, hdf, f0, f1, f5, f6, f7⟩⟩
    obtain ⟨g, hg⟩ : ∃ g : Nat → Value, g = fun i => tm[i]?.getD undef := ⟨_, rfl⟩
    have htm := frame_of tm hsz
    have g0 : g 0 = .pointer (some ⟨p, 0, none⟩) := by rw [hg]; show tm[0]?.getD undef = _; rw [show tm[0]? = _ from f0]; rfl
    have g1 : g 1 = .pointer (some ⟨14, 0, none⟩) := by rw [hg]; show tm[1]?.getD undef = _; rw [show tm[1]? = _ from f1]; rfl
    have g5 : g 5 = .bool o := by rw [hg]; show tm[5]?.getD undef = _; rw [show tm[5]? = _ from f5]; rfl
    have g6 : g 6 = .int .i64 x := by rw [hg]; show tm[6]?.getD undef = _; rw [show tm[6]? = _ from f6]; rfl
    have g7 : g 7 = .int .u64 m := by rw [hg]; show tm[7]?.getD undef = _; rw [show tm[7]? = _ from f7]; rfl
    have htm2 : tm = #[g 0, g 1, g 2, g 3, g 4, g 5, g 6, g 7, g 8, g 9, g 10, g 11, g 12, g 13, g 14, g 15, g 16, g 17, g 18, g 19, g 20, g 21, g 22, g 23, g 24, g 25, g 26, g 27, g 28, g 29, g 30, g 31, g 32, g 33, g 34, g 35, g 36, g 37, g 38, g 39, g 40, g 41, g 42, g 43, g 44, g 45, g 46, g 47, g 48, g 49, g 50, g 51, g 52, g 53, g 54, g 55, g 56, g 57, g 58, g 59, g 60, g 61, g 62, g 63, g 64, g 65, g 66, g 67, g 68, g 69, g 70, g 71, g 72, g 73, g 74, g 75, g 76, g 77, g 78, g 79, g 80, g 81, g 82, g 83, g 84, g 85, g 86, g 87, g 88, g 89, g 90, g 91, g 92, g 93, g 94, g 95, g 96, g 97, g 98, g 99, g 100, g 101, g 102, g 103, g 104, g 105, g 106, g 107, g 108, g 109, g 110, g 111, g 112, g 113, g 114, g 115, g 116, g 117, g 118, g 119, g 120, g 121, g 122, g 123, g 124, g 125, g 126, g 127, g 128, g 129, g 130, g 131, g 132, g 133, g 134, g 135, g 136, g 137, g 138, g 139, g 140, g 141, g 142, g 143, g 144, g 145, g 146, g 147, g 148, g 149, g 150, g 151, g 152, g 153, g 154, g 155, g 156, g 157, g 158, g 159, g 160, g 161, g 162, g 163, g 164, g 165, g 166, g 167, g 168, g 169, g 170, g 171, g 172, g 173, g 174, g 175, g 176, g 177, g 178, g 179, g 180, g 181, g 182, g 183, g 184, g 185, g 186, g 187, g 188, g 189, g 190, g 191, g 192, g 193, g 194, g 195, g 196, g 197, g 198, g 199, g 200, g 201, g 202, g 203, g 204, g 205, g 206, g 207, g 208, g 209, g 210, g 211, g 212, g 213, g 214, g 215, g 216, g 217, g 218, g 219, g 220, g 221, g 222, g 223, g 224, g 225, g 226, g 227, g 228, g 229, g 230, g 231, g 232, g 233, g 234, g 235, g 236, g 237, g 238, g 239, g 240, g 241, g 242] := by rw [frame243, hg]; exact htm
    rw [g0, g1, g5, g6, g7] at htm2
    clear g0 g1 g5 g6 g7 f0 f1 f5 f6 f7 htm hg hsz
    subst htm2
    obtain rfl : df = [] := hdf
    have hfb := hG'.fb
    have hfe := hG'.fe
    have hfm := hG'.fm
    have hm52 : bits .and .u64 0 4503599627370495 = 0 := mask52 0 (by omega)
    have hm11 : bits .and .i64 2047 2047 = 2047 := mask11 2047 (by omega)
    have hj : bits .or .u64 0 9218868437227405312 = 9218868437227405312 := join52 0 2047 (by omega) (by omega)
    have hj63 : bits .or .u64 9218868437227405312 9223372036854775808 = 18442240474082181120 := join63 9218868437227405312 (by omega)
    clear hG hcb hok h hcn hcp
    clear hG'
    have hend : ∀ (bx : Nat), bx < 18446744073709551616 → FbRes (.tuple #[.int .u64 bx, .bool true]) := fun bx hx => ⟨bx, true, rfl, hx, fun h => by cases h⟩
    replace hend := hide hend
    replace hbel := hide hbel
    go_wp2
    go_quiet (fail)
    go_wp2
    refine wp_label ?_
    go_wp2
    go_quiet (fail)
    cases ng
    · go_wp2
      (try simp only [Exit.noGoto_ret])
      go_ret2
      exact ⟨⟨_, rfl, hend.out 9218868437227405312 (by omega)⟩, below_drewN hbel.out _⟩
    · go_wp2
      go_quiet (fail)
      go_wp2
      (try simp only [Exit.noGoto_ret])
      go_ret2
      exact ⟨⟨_, rfl, hend.out 18442240474082181120 (by omega)⟩, below_drewN (below_drewN hbel.out _) _⟩
end Go.Proofs.YtgmbjdoifkjdhaaGreatDoor
