/- Words for the walks: what the package-level variables hold, and that they keep it while the call writes above block B. Walks of strconv's small functions on numbers. Walks of strconv's scaling and of its reading of digits (parseFloat64). The walk of strconv.parseFloat64, and what it hands back. The walk of strconv.atof64exact: what can be done exactly. -/
import Derived.Test.YtgmbjdoifkjdhaaGreatDoorKa
import Derived.Test.YtgmbjdoifkjdhaaGreatDoorShelf
import Derived.WalkKit
import Derived.WalkSpells
import Derived.WalkLawsBesides
import Derived.Deep.QuietTactic
import Derived.BigQuiet
import Derived.Lib.Hide
import Derived.Laws.FloatArith
import Derived.Laws.Rows
import Derived.Laws.Externs
import Derived.Laws.BitsAllLaws
section
namespace Go.Proofs.YtgmbjdoifkjdhaaGreatDoor
open Go.RowKit

/-- strconv's table of powers of two by powers of ten. -/
def powtabN (i : Nat) : Nat := [1, 3, 6, 9, 13, 16, 19, 23, 26].getD i 0
def cheatDelta (i : Nat) : Nat := (Go.Pinned.cheatRows.getD i (0, [])).1
def cheatCut (i : Nat) : List UInt8 := (Go.Pinned.cheatRows.getD i (0, [])).2
/-- unicode.asciiFold: the next letter that folds alike. -/
def foldN (i : Nat) : Nat := if i = 75 then 107 else if i = 83 then 115 else if i = 107 then 8490 else if i = 115 then 383 else if 65 ≤ i ∧ i ≤ 90 then i + 32 else if 97 ≤ i ∧ i ≤ 122 then i - 32 else i

/-- What the variables hold that the call reads; all of it below block B. -/
structure Glob (B : Nat) (w : World) : Prop where
  low : 22 ≤ B
  size : B ≤ w.heap.size
  opt : w.cell? ⟨9, 0, none⟩ = some (.bool true)
  fm : w.cell? ⟨14, 0, none⟩ = some (.int .u64 52)
  fe : w.cell? ⟨14, 1, none⟩ = some (.int .u64 11)
  fb : w.cell? ⟨14, 2, none⟩ = some (.int .i64 (-1023))
  tab : Lib.TabIs Tryz.prog w "internal/strconv.uint64pow10" .u64 Lib.pow10Tab
  hi : ∀ i, i < 696 → w.cell? ⟨15, i * 2, none⟩ = some (.int .u64 (Fl.hiT i))
  lo : ∀ i, i < 696 → w.cell? ⟨15, i * 2 + 1, none⟩ = some (.int .u64 (Fl.loT i))
  pw : ∃ b o, b < B ∧ w.cell? ⟨19, 0, none⟩ = some (.slice (some ⟨b, o, none⟩) 23 23) ∧ ∀ i, i < 23 → w.cell? ⟨b, o + i, none⟩ = some (.float .f64 (Fl.pw i))
  pt : ∃ b o, b < B ∧ w.cell? ⟨18, 0, none⟩ = some (.slice (some ⟨b, o, none⟩) 9 9) ∧ ∀ i, i < 9 → w.cell? ⟨b, o + i, none⟩ = some (.int .i64 (powtabN i))
  ch : ∃ b o, b < B ∧ w.cell? ⟨16, 0, none⟩ = some (.slice (some ⟨b, o, none⟩) 61 61) ∧ ∀ i, i < 61 → w.cell? ⟨b, o + i * 2, none⟩ = some (.int .i64 (cheatDelta i)) ∧ w.cell? ⟨b, o + i * 2 + 1, none⟩ = some (.string ⟨(cheatCut i).toArray⟩)
  fold : ∀ i, i < 128 → w.cell? ⟨3, i, none⟩ = some (.int .u16 (foldN i))
  e0 : ∃ t p, w.cell? ⟨0, 0, none⟩ = some (.iface t p)
  e1 : ∃ t p, w.cell? ⟨1, 0, none⟩ = some (.iface t p)
  e10 : ∃ t p, w.cell? ⟨10, 0, none⟩ = some (.iface t p)
  e11 : ∃ t p, w.cell? ⟨11, 0, none⟩ = some (.iface t p)
  b13 : ∃ cs t, w.heap[13]? = some (.cells cs t (0, 0))
  b14 : ∃ cs t, w.heap[14]? = some (.cells cs t (0, 0))

theorem var_below {B : Nat} {w w' : World} (h : Below B w w') {name : String} {g : Nat} (hg : Tryz.prog.globalNamed name = some g) (hB : g < B) : w'.var? Tryz.prog name = w.var? Tryz.prog name := by
  simp [World.var?, hg, h.block g hB]

theorem pow10_named : Tryz.prog.globalNamed "internal/strconv.uint64pow10" = some 12 := by kernel_rfl

theorem Glob.below {B : Nat} {w w' : World} (h : Glob B w) (hb : Below B w w') : Glob B w' := by
  have c : ∀ b o, b < B → w'.cell? ⟨b, o, none⟩ = w.cell? ⟨b, o, none⟩ := fun b o hlt => hb.cell (p := ⟨b, o, none⟩) hlt
  have l := h.low
  refine ⟨h.low, Nat.le_trans h.size hb.size, ?_, ?_, ?_, ?_, ?_, ?_, ?_, ?_, ?_, ?_, ?_, ?_, ?_, ?_, ?_, ?_, ?_⟩
  · rw [c _ _ (by omega)]; exact h.opt
  · rw [c _ _ (by omega)]; exact h.fm
  · rw [c _ _ (by omega)]; exact h.fe
  · rw [c _ _ (by omega)]; exact h.fb
  · exact (var_below hb pow10_named (by omega)).trans h.tab
  · intro i hi; rw [c _ _ (by omega)]; exact h.hi i hi
  · intro i hi; rw [c _ _ (by omega)]; exact h.lo i hi
  · obtain ⟨b, o, h1, h2, h3⟩ := h.pw
    exact ⟨b, o, h1, by rw [c _ _ (by omega)]; exact h2, fun i hi => by rw [c _ _ h1]; exact h3 i hi⟩
  · obtain ⟨b, o, h1, h2, h3⟩ := h.pt
    exact ⟨b, o, h1, by rw [c _ _ (by omega)]; exact h2, fun i hi => by rw [c _ _ h1]; exact h3 i hi⟩
  · obtain ⟨b, o, h1, h2, h3⟩ := h.ch
    exact ⟨b, o, h1, by rw [c _ _ (by omega)]; exact h2, fun i hi => by rw [c _ _ h1, c _ _ h1]; exact h3 i hi⟩
  · intro i hi; rw [c _ _ (by omega)]; exact h.fold i hi
  · obtain ⟨t, p, h1⟩ := h.e0; exact ⟨t, p, by rw [c _ _ (by omega)]; exact h1⟩
  · obtain ⟨t, p, h1⟩ := h.e1; exact ⟨t, p, by rw [c _ _ (by omega)]; exact h1⟩
  · obtain ⟨t, p, h1⟩ := h.e10; exact ⟨t, p, by rw [c _ _ (by omega)]; exact h1⟩
  · obtain ⟨t, p, h1⟩ := h.e11; exact ⟨t, p, by rw [c _ _ (by omega)]; exact h1⟩
  · obtain ⟨cs, t, h1⟩ := h.b13; exact ⟨cs, t, by rw [hb.block 13 (by omega)]; exact h1⟩
  · obtain ⟨cs, t, h1⟩ := h.b14; exact ⟨cs, t, by rw [hb.block 14 (by omega)]; exact h1⟩

theorem Glob.up {B : Nat} {w w' : World} (h : Glob B w) (hb : Below w.heap.size w w') : Glob B w' := h.below (hb.mono h.size)

theorem below_drewN {B : Nat} {a w : World} (h : Below B a w) (n : Nat) : Below B a (w.drewN n) := ⟨h.os, h.tape, h.output, h.size, h.block⟩
theorem Glob.drewN {B : Nat} {w : World} (h : Glob B w) (n : Nat) : Glob B (w.drewN n) := h.below (below_drewN (Below.refl _ _) n)

theorem hide {p : Prop} (h : p) : Hid p := h
theorem unhide {p : Prop} (h : Hid p) : p := h
/-- Block g is just these cells, of this type; none is frozen. -/
def Blk (w : World) (g : Nat) (t : TypeId) (cs : Array Value) : Prop := w.heap[g]? = some (.cells cs t (0, 0))
theorem Blk.cell {w : World} {g : Nat} {t : TypeId} {cs : Array Value} (h : Blk w g t cs) (i : Nat) : w.cell? ⟨g, i, none⟩ = cs[i]? := cell_of_row w g i cs t (0, 0) h
theorem Blk.frozen {w : World} {g : Nat} {t : TypeId} {cs : Array Value} (h : Blk w g t cs) (i : Nat) : w.frozen? ⟨g, i, none⟩ = false := by
  unfold Blk at h
  simp [World.frozen?, h]
theorem Blk.set {w : World} {g : Nat} {t : TypeId} {cs : Array Value} (h : Blk w g t cs) (i : Nat) (u : Value) : Blk (w.setCell ⟨g, i, none⟩ u) g t (cs.setIfInBounds i u) := by
  unfold Blk at h ⊢
  simp [World.setCell, Array.getElem?_modify, h]
theorem Blk.new (w : World) (t : TypeId) (cs : Array Value) : Blk (w.alloc (.cells cs t)) w.heap.size t cs := heap_alloc_new w _
theorem Blk.lt {w : World} {g : Nat} {t : TypeId} {cs : Array Value} (h : Blk w g t cs) : g < w.heap.size := by
  rcases Nat.lt_or_ge g w.heap.size with hlt | hge
  · exact hlt
  · unfold Blk at h; rw [Array.getElem?_eq_none hge] at h; cases h
theorem Blk.drewN {w : World} {g : Nat} {t : TypeId} {cs : Array Value} (h : Blk w g t cs) (n : Nat) : Blk (w.drewN n) g t cs := h
theorem Blk.below {w w' : World} {g B : Nat} {t : TypeId} {cs : Array Value} (h : Blk w g t cs) (hb : Below B w w') (hg : g < B) : Blk w' g t cs := (hb.block g hg).trans h
theorem Blk.alloc {w : World} {g : Nat} {t : TypeId} {cs : Array Value} (h : Blk w g t cs) (o : Obj) : Blk (w.alloc o) g t cs := (Below.heap_alloc w o g h.lt).trans h
theorem Blk.far {w : World} {g : Nat} {t : TypeId} {cs : Array Value} (h : Blk w g t cs) {p : Addr} (hp : g ≠ p.block) (u : Value) : Blk (w.setCell p u) g t cs := (Below.heap_setCell w p u g hp).trans h
theorem size_set (w : World) (a : Addr) (u : Value) : (w.setCell a u).heap.size = w.heap.size := by simp [World.setCell]
end Go.Proofs.YtgmbjdoifkjdhaaGreatDoor
end
section
namespace Go.Proofs.YtgmbjdoifkjdhaaGreatDoor
open Go.RowKit

theorem run143 (n : Int) (w : World) : (callFunc 143 #[.int .u64 n]).run Tryz.prog w = .ok (.value (.float .f64 n.toNat)) w := by
  rw [run_callFunc_extern (e := Extern.MathFloatBits.float64frombits) (fn := Tryz.f143) Tryz.func143 (by kernel_rfl) (by kernel_rfl) (by kernel_rfl) (by kernel_rfl)]
  rfl
theorem run92 (n : Nat) (w : World) : (callFunc 92 #[.float .f64 n]).run Tryz.prog w = .ok (.value (.int .u64 n)) w := by
  rw [run_callFunc_extern (e := Extern.MathFloatBits.float64bits) (fn := Tryz.f92) Tryz.func92 (by kernel_rfl) (by kernel_rfl) (by kernel_rfl) (by kernel_rfl)]
  rfl
theorem run70 (n : Nat) (w : World) : (callFunc 70 #[.float .f64 n]).run Tryz.prog w = .ok (.value (.int .u64 n)) w := by
  rw [run_callFunc_extern (e := Extern.MathFloatBits.float64bits) (fn := Tryz.f70) Tryz.func70 (by kernel_rfl) (by kernel_rfl) (by kernel_rfl) (by kernel_rfl)]
  rfl

/-! ### Bits -/
theorem ofInt64 (a : Nat) (ha : a < 9223372036854775808) : (BitVec.ofInt 64 (a : Int)).toNat = a := by
  rw [BitVec.ofInt_natCast, BitVec.toNat_ofNat]; exact Nat.mod_eq_of_lt (by omega)
theorem i64_and_nat (a b : Nat) (ha : a < 9223372036854775808) (hb : b < 9223372036854775808) : bits .and .i64 (a : Int) (b : Int) = ((a &&& b : Nat) : Int) := by
  have hx : a &&& b < 2 ^ 63 := Nat.and_lt_two_pow _ (by omega)
  show IntKind.i64.wrap ((BitVec.ofInt 64 (a : Int) &&& BitVec.ofInt 64 (b : Int)).toNat : Int) = _
  rw [BitVec.toNat_and, ofInt64 a ha, ofInt64 b hb, IntKind.wrap_i64]
  omega
theorem and63 (s : Nat) (h : s < 64) : bits .and .i64 (s : Int) 63 = (s : Int) := by
  have := i64_and_nat s 63 (by omega) (by omega)
  rw [nat_mask6, Nat.mod_eq_of_lt h] at this
  exact this
theorem and1 (s : Nat) (h : s < 18446744073709551616) : bits .and .u64 (s : Int) 1 = ((s % 2 : Nat) : Int) := by
  have := u64_and_nat s 1 h (by omega)
  rw [nat_mask1] at this
  exact this
theorem or1 (s : Nat) (h : s < 18446744073709551616) : bits .or .u64 (s : Int) 1 = ((s ||| 1 : Nat) : Int) := u64_or_nat s 1 h (by omega)
theorem or0 (s : Nat) (h : s < 18446744073709551616) : bits .or .u64 (s : Int) 0 = (s : Int) := by
  have := u64_or_nat s 0 h (by omega)
  rw [Nat.or_zero] at this
  exact this

/-! ### The smallest ones -/
set_option maxHeartbeats 400000 in
theorem log10_any (x : Int) (w : World) (h0 : -1000000 ≤ x) (h1 : x < 1000000) :
    Calls Tryz.prog 100 #[.int .i64 x] w fun e w' => e = .returned (.int .i64 (Fl.l10 x)) ∧ w = w' := by
  go_enter Tryz.func100, Tryz.ntmps100
  go_wp2
  go_ret
  exact ⟨rfl, rfl⟩
set_option maxHeartbeats 400000 in
theorem log2_any (x : Int) (w : World) (h0 : -1000000 ≤ x) (h1 : x < 1000000) :
    Calls Tryz.prog 117 #[.int .i64 x] w fun e w' => e = .returned (.int .i64 (Fl.lp x)) ∧ w = w' := by
  go_enter Tryz.func117, Tryz.ntmps117
  go_wp2
  go_ret
  exact ⟨rfl, rfl⟩
set_option maxHeartbeats 400000 in
theorem skew_any (x : Int) (w : World) (h0 : -1000000 ≤ x) (h1 : x < 1000000) :
    Calls Tryz.prog 115 #[.int .i64 x] w fun e w' => e = .returned (.int .i64 (Fl.skew x)) ∧ w = w' := by
  go_enter Tryz.func115, Tryz.ntmps115
  go_wp2
  go_ret
  exact ⟨rfl, rfl⟩
set_option maxHeartbeats 400000 in
theorem bool2u_any (b : Bool) (w : World) : Calls Tryz.prog 142 #[.bool b] w fun e w' => e = .returned (.int .u64 (if b then 1 else 0)) ∧ w = w' := by
  cases b
  all_goals
    go_enter Tryz.func142, Tryz.ntmps142
    go_wp2
    go_ret
    exact ⟨rfl, rfl⟩
set_option maxHeartbeats 400000 in
theorem bool2i_any (b : Bool) (w : World) : Calls Tryz.prog 124 #[.bool b] w fun e w' => e = .returned (.int .i64 (if b then 1 else 0)) ∧ w = w' := by
  cases b
  all_goals
    go_enter Tryz.func124, Tryz.ntmps124
    go_wp2
    go_ret
    exact ⟨rfl, rfl⟩
set_option maxHeartbeats 400000 in
theorem ceil_any (u : Nat) (w : World) (h : u ≤ 1152921504606846976) : Calls Tryz.prog 120 #[.int .u64 u] w fun e w' => e = .returned (.int .u64 ((u + 3) / 4 : Nat)) ∧ w = w' := by
  go_enter Tryz.func120, Tryz.ntmps120
  go_wp2
  go_ret
  exact ⟨rfl, rfl⟩
set_option maxHeartbeats 400000 in
theorem floor_any (u : Nat) (w : World) (h : u ≤ 1152921504606846976) : Calls Tryz.prog 121 #[.int .u64 u] w fun e w' => e = .returned (.int .u64 (u / 4 : Nat)) ∧ w = w' := by
  go_enter Tryz.func121, Tryz.ntmps121
  go_wp2
  go_ret
  exact ⟨rfl, rfl⟩
set_option maxHeartbeats 400000 in
theorem unmin_any (w : World) : Calls Tryz.prog 125 #[.int .u64 9007199254740992] w fun e w' => e = .returned (.int .u64 36028797018963966) ∧ w = w' := by
  go_enter Tryz.func125, Tryz.ntmps125
  go_wp2
  go_ret
  exact ⟨rfl, rfl⟩
set_option maxHeartbeats 400000 in
theorem nudge_up (u o : Nat) (w : World) (h : u ≤ 1152921504606846976) (ho : o ≤ 1) : Calls Tryz.prog 119 #[.int .u64 u, .int .i64 o] w fun e w' => e = .returned (.int .u64 (u + o : Nat)) ∧ w = w' := by
  go_enter Tryz.func119, Tryz.ntmps119
  go_wp2
  go_ret
  exact ⟨rfl, rfl⟩
set_option maxHeartbeats 400000 in
theorem nudge_down (u o : Nat) (w : World) (h : u ≤ 1152921504606846976) (h1 : 1 ≤ u) (ho : o ≤ 1) : Calls Tryz.prog 119 #[.int .u64 u, .int .i64 (-(o : Int))] w fun e w' => e = .returned (.int .u64 (u - o : Nat)) ∧ w = w' := by
  have e : IntKind.u64.wrap ((u : Int) + IntKind.u64.wrap (-(o : Int))) = ((u - o : Nat) : Int) := by
    rw [IntKind.wrap_u64, IntKind.wrap_u64]; omega
  go_enter Tryz.func119, Tryz.ntmps119
  go_wp2
  go_ret
  exact ⟨rfl, rfl⟩
set_option maxHeartbeats 400000 in
theorem round_any (u : Nat) (w : World) (h : u ≤ 1152921504606846976) : Calls Tryz.prog 122 #[.int .u64 u] w fun e w' => e = .returned (.int .u64 (Fl.roundN u : Nat)) ∧ w = w' := by
  have e : bits .and .u64 ((u : Int) / 4) 1 = ((u / 4 % 2 : Nat) : Int) := and1 (u / 4) (by omega)
  go_enter Tryz.func122, Tryz.ntmps122
  go_wp2
  go_ret
  exact ⟨rfl, rfl⟩

/-! ### A mantissa and an exponent packed -/
theorem and52 (m : Nat) (h : m < 18446744073709551616) : bits .and .u64 (m : Int) 4503599627370496 = ((m / 4503599627370496 % 2 * 4503599627370496 : Nat) : Int) := by
  have := u64_and_nat m 4503599627370496 h (by omega)
  rw [show (4503599627370496 : Nat) = 2 ^ 52 from rfl, nat_bit, show (2 : Nat) ^ 52 = 4503599627370496 from rfl] at this
  exact this

def signed (neg : Bool) (m : Nat) : Nat := Fl.wordOf neg m
theorem signed_lt (neg : Bool) {m : Nat} (h : m < 9223372036854775808) : signed neg m < 18446744073709551616 := by unfold signed Fl.wordOf; split <;> omega
theorem signed_bit (neg : Bool) (m : Nat) : signed neg m / 4503599627370496 % 2 = m / 4503599627370496 % 2 := by unfold signed Fl.wordOf; split <;> omega

set_option maxHeartbeats 400000 in
set_option maxRecDepth 100000 in
theorem pack_small (neg : Bool) (m : Nat) (e : Int) (w : World) (hm : m ≤ 9007199254740992) (h : m < 4503599627370496 ∨ m = 9007199254740992) :
    Calls Tryz.prog 158 #[.int .u64 (signed neg m), .int .i64 e] w fun e w' => e = .returned (.tuple #[.float .f64 (Fl.wordOf neg m), .nilIface]) ∧ w = w' := by
  have hs : (bits .and .u64 ((signed neg m : Nat) : Int) 4503599627370496 == 0) = true := by
    rw [and52 _ (signed_lt neg (by omega)), signed_bit]
    rcases h with h | h
    · rw [Nat.div_eq_of_lt h]; rfl
    · subst h; rfl
  have hd := run143
  go_enter Tryz.func158, Tryz.ntmps158
  go_wp2
  go_ret2
  exact ⟨rfl, rfl⟩
set_option maxHeartbeats 400000 in
set_option maxRecDepth 100000 in
theorem pack_inf (neg : Bool) (m : Nat) (e : Int) (w : World) (h : 4503599627370496 ≤ m) (h' : m < 9007199254740992) (he : 972 ≤ e) :
    Calls Tryz.prog 158 #[.int .u64 (signed neg m), .int .i64 e] w fun e w' => (∃ b, e = .returned (.tuple #[.float .f64 b, .iface 150 (.int .i64 1)])) ∧ w = w' := by
  have hs : (bits .and .u64 ((signed neg m : Nat) : Int) 4503599627370496 == 0) = false := by
    rw [and52 _ (signed_lt neg (by omega)), signed_bit, show m / 4503599627370496 = 1 by omega]; rfl
  have hd := run143
  clear h h'
  go_enter Tryz.func158, Tryz.ntmps158
  go_wp2
  go_ret2
  exact ⟨⟨_, rfl⟩, rfl⟩
theorem low_mask (l : Nat) (h : l < 4503599627370496) : l &&& 18442240474082181119 = l := by
  have h1 : l &&& 18442240474082181119 ≤ l := Nat.and_le_left
  have h2 := @Nat.and_mod_two_pow l 18442240474082181119 52
  rw [show (18442240474082181119 : Nat) % 2 ^ 52 = 2 ^ 52 - 1 by decide, Nat.and_two_pow_sub_one_eq_mod, Nat.mod_mod, show (2 : Nat) ^ 52 = 4503599627370496 from rfl, Nat.mod_eq_of_lt h, Nat.mod_eq_of_lt (by omega)] at h2
  exact h2

theorem pack_nat (neg : Bool) (m k : Nat) (h : 4503599627370496 ≤ m) (h' : m < 9007199254740992) (hk : k < 2046) :
    (signed neg m &&& 18442240474082181119) ||| ((k + 1) * 4503599627370496) = Fl.wordOf neg (k * 4503599627370496 + m) := by
  obtain ⟨l, rfl⟩ : ∃ l, m = 4503599627370496 + l := ⟨m - 4503599627370496, by omega⟩
  have hl : l < 4503599627370496 := by omega
  have e1 : 4503599627370496 + l = 4503599627370496 ||| l := (nat_join 52 _ _ (by decide) hl).symm
  have e2 : (4503599627370496 : Nat) &&& 18442240474082181119 = 0 := by decide
  have e3 : ((k + 1) * 4503599627370496) ||| l = (k + 1) * 4503599627370496 + l := nat_join 52 _ _ (Nat.mul_mod_left _ _) hl
  cases neg with
  | false =>
    simp only [signed, Fl.wordOf, Bool.false_eq_true, if_false]
    rw [e1, Nat.and_or_distrib_right, e2, low_mask l hl, Nat.zero_or, Nat.or_comm, e3]
    rw [← e1]; omega
  | true =>
    simp only [signed, Fl.wordOf, if_true]
    have e4 : 9223372036854775808 + (4503599627370496 + l) = 9223372036854775808 ||| (4503599627370496 + l) := (nat_join 63 _ _ (by decide) (by omega)).symm
    have e5 : 9223372036854775808 ||| ((k + 1) * 4503599627370496 + l) = 9223372036854775808 + ((k + 1) * 4503599627370496 + l) := nat_join 63 _ _ (by decide) (by omega)
    rw [e4, e1, Nat.and_or_distrib_right, Nat.and_or_distrib_right, e2, low_mask l hl, Nat.zero_or, show (9223372036854775808 : Nat) &&& 18442240474082181119 = 9223372036854775808 by decide, Nat.or_assoc, Nat.or_comm l, e3, e5]
    rw [← e1]; omega

theorem pack_bits (neg : Bool) (m k : Nat) (h : 4503599627370496 ≤ m) (h' : m < 9007199254740992) (hk : k < 2046) :
    (bits .or .u64 (bits .andNot .u64 ((signed neg m : Nat) : Int) 4503599627370496) ((1075 + ((k : Int) - 1074)) * 4503599627370496)).toNat = Fl.wordOf neg (k * 4503599627370496 + m) := by
  have h1 := u64_andNot_nat (signed neg m) 4503599627370496 (signed_lt neg (by omega)) (by omega)
  have h2 : (1075 + ((k : Int) - 1074)) * 4503599627370496 = (((k + 1) * 4503599627370496 : Nat) : Int) := by omega
  have h3 := u64_or_nat (signed neg m &&& 18442240474082181119) ((k + 1) * 4503599627370496) (Nat.lt_of_le_of_lt Nat.and_le_left (signed_lt neg (by omega))) (by omega)
  rw [show (((4503599627370496 : Nat) : Int)) = 4503599627370496 from rfl, show 18446744073709551615 - 4503599627370496 = 18442240474082181119 from rfl] at h1
  rw [h1, h2, h3, pack_nat neg m k h h' hk]
  rfl
set_option maxHeartbeats 400000 in
set_option maxRecDepth 100000 in
theorem pack_fin (neg : Bool) (m k : Nat) (w : World) (h : 4503599627370496 ≤ m) (h' : m < 9007199254740992) (hk : k < 2046) :
    Calls Tryz.prog 158 #[.int .u64 (signed neg m), .int .i64 ((k : Int) - 1074)] w fun e w' => e = .returned (.tuple #[.float .f64 (Fl.wordOf neg (k * 4503599627370496 + m)), .nilIface]) ∧ w = w' := by
  have hs : (bits .and .u64 ((signed neg m : Nat) : Int) 4503599627370496 == 0) = false := by
    rw [and52 _ (signed_lt neg (by omega)), signed_bit, show m / 4503599627370496 = 1 by omega]; rfl
  have hb := pack_bits neg m k h h' hk
  have HB := hide hb
  clear hb h h'
  have hd := run143
  go_enter Tryz.func158, Tryz.ntmps158
  go_wp2
  go_ret2
  exact ⟨by rw [← HB.out]; rfl, rfl⟩
end Go.Proofs.YtgmbjdoifkjdhaaGreatDoor
end
section
namespace Go.Proofs.YtgmbjdoifkjdhaaGreatDoor
open Go.RowKit
set_option maxHeartbeats 400000 in
set_option maxRecDepth 100000 in
theorem prescale_any (B g : Nat) (p e l : Int) (w : World) (hG : Glob B w) (hB : B ≤ g) (h0 : 0 ≤ p + 348) (h1 : p + 348 < 696) (he : -10000 < e) (he2 : e < 10000) (hl : -10000 < l) (hl2 : l < 10000)
    (hb : Blk w g 192 #[.int .u64 0, .int .u64 0, .int .i64 0]) :
    Calls Tryz.prog 116 #[.pointer (some ⟨g, 0, none⟩), .int .i64 e, .int .i64 p, .int .i64 l] w fun r w' => r = .returned (.tuple #[]) ∧
      Blk w' g 192 #[.int .u64 (Fl.hiT (p + 348).toNat), .int .u64 (Fl.loT (p + 348).toNat), .int .i64 (-(e + l + 3))] ∧ Below g w w' := by
  have t1 := hG.hi (p + 348).toNat (by omega)
  have t2 := hG.lo (p + 348).toNat (by omega)
  have c0 : w.cell? ⟨g, 0, none⟩ = some (.int .u64 0) := hb.cell 0
  have c1 : w.cell? ⟨g, 1, none⟩ = some (.int .u64 0) := hb.cell 1
  have c2 : w.cell? ⟨g, 2, none⟩ = some (.int .i64 0) := hb.cell 2
  have f0 := hb.frozen 0
  have f1 := hb.frozen 1
  have f2 := hb.frozen 2
  have hne : ¬ g = 15 := by have := hG.low; omega
  have hne' : ¬ 15 = g := by have := hG.low; omega
  go_enter Tryz.func116, Tryz.ntmps116
  go_wp2
  go_end0
  exact ⟨rfl, ((hb.set 0 _).set 1 _).set 2 _, (((Below.refl g w).setCell (Nat.le_refl _) _).setCell (Nat.le_refl _) _).setCell (Nat.le_refl _) _⟩

theorem mul64_any (x y h m : Nat) (hx : x < 18446744073709551616) (hy : y < 18446744073709551616) (e1 : x * y / 18446744073709551616 = h) (e2 : x * y % 18446744073709551616 = m) (w : World) :
    Calls Tryz.prog 149 #[.int .u64 x, .int .u64 y] w fun e w' => e = .returned (.tuple #[.int .u64 h, .int .u64 m]) ∧ w = w' := by
  subst e1 e2
  exact (Tryz.bits_Mul64 x y hx hy w).mono fun _ _ ⟨a, b⟩ => ⟨a, b.symm⟩

/-- What 'uscale' hands back: a number, and the world but for draws. -/
def Quiet (v : Value) (w : World) (e : Ending) (w' : World) : Prop := e = .returned v ∧ ∃ n, w' = w.drewN n

set_option maxHeartbeats 1000000 in
set_option maxRecDepth 100000 in
theorem uscale_any (x hi lo s a : Nat) (w : World) (hx : x < 18446744073709551616) (hh : hi < 18446744073709551616) (hl : lo < 18446744073709551616) (hs : s < 64) (hxh : 18446744073709551616 ≤ x * hi)
    (hb : Blk w a 192 #[.int .u64 hi, .int .u64 lo, .int .i64 s]) :
    Calls Tryz.prog 118 #[.int .u64 x, .pointer (some ⟨a, 0, none⟩)] w (Quiet (.int .u64 (Fl.uscaleN x hi lo s : Nat)) w) := by
  obtain ⟨h, eh⟩ : ∃ h, x * hi / 18446744073709551616 = h := ⟨_, rfl⟩
  obtain ⟨m, em⟩ : ∃ m, x * hi % 18446744073709551616 = m := ⟨_, rfl⟩
  obtain ⟨m2, em2⟩ : ∃ m2, x * lo / 18446744073709551616 = m2 := ⟨_, rfl⟩
  obtain ⟨l2, el2⟩ : ∃ l2, x * lo % 18446744073709551616 = l2 := ⟨_, rfl⟩
  have hm64 : m < 18446744073709551616 := by omega
  have hprod : ∀ y, y < 18446744073709551616 → x * y ≤ 340282366920938463426481119284349108225 := fun y hy => by
    exact Nat.mul_le_mul (show x ≤ 18446744073709551615 by omega) (show y ≤ 18446744073709551615 by omega)
  have hh64 : h ≤ 18446744073709551614 := by have := hprod hi hh; omega
  have hh1 : 1 ≤ h := by omega
  have hm264 : m2 ≤ 18446744073709551614 := by have := hprod lo hl; omega
  have M1 := hide (mul64_any x hi h m hx hh eh em)
  have M2 := hide (mul64_any x lo m2 l2 hx hl em2 el2)
  have hu : Fl.uscaleN x hi lo s = (if h % 2 ^ s ≠ 0 then (h / 2 ^ s) ||| 1 else ((h - (if m < m2 then 1 else 0)) / 2 ^ s) ||| (if (m + 18446744073709551616 - m2) % 18446744073709551616 > 1 then 1 else 0)) := by
    unfold Fl.uscaleN; rw [eh, em, em2]
  have HU := hide hu
  clear hu
  have c0 : w.cell? ⟨a, 0, none⟩ = some (.int .u64 hi) := hb.cell 0
  have c1 : w.cell? ⟨a, 1, none⟩ = some (.int .u64 lo) := hb.cell 1
  have c2 : w.cell? ⟨a, 2, none⟩ = some (.int .i64 s) := hb.cell 2
  have hb63 := and63 s hs
  have hs1 : (s : Int) ≤ 64 := by omega
  have hcast : (h : Int) / 2 ^ s = ((h / 2 ^ s : Nat) : Int) := by rw [Int.natCast_ediv, Int.natCast_pow]; rfl
  have hq : h / 2 ^ s ≤ h := Nat.div_le_self _ _
  have hround : IntKind.u64.wrap ((h : Int) / 2 ^ s * 2 ^ s) = ((h / 2 ^ s * 2 ^ s : Nat) : Int) := by
    have h1 := Nat.div_mul_le_self h (2 ^ s)
    rw [hcast, IntKind.wrap_u64, show ((h / 2 ^ s : Nat) : Int) * 2 ^ s = ((h / 2 ^ s * 2 ^ s : Nat) : Int) by rw [Int.natCast_mul, Int.natCast_pow]; rfl]
    omega
  clear eh em em2 el2 hprod
  by_cases hz : h % 2 ^ s ≠ 0
  · have ht : (IntKind.u64.wrap ((h : Int) / 2 ^ s * 2 ^ s) != (h : Int)) = true := by
      rw [hround, bne_iff_ne]
      have := Nat.div_add_mod h (2 ^ s)
      rw [Nat.mul_comm] at this
      omega
    have HO : Hid (bits .or .u64 ((h : Int) / 2 ^ s) 1 = ((Fl.uscaleN x hi lo s : Nat) : Int)) := by
      show _ = _
      rw [HU.out, if_pos hz, hcast]
      exact or1 _ (by omega)
    clear hz hround hcast hq
    go_enter Tryz.func118, Tryz.ntmps118
    go_wp2_with (first | (go_at_call 149; refine (unhide M1 w).mono ?_; rintro e w' ⟨rfl, rfl⟩))
    go_ret
    exact ⟨by rw [← HO.out]; rfl, 0, rfl⟩
  · have ht : (IntKind.u64.wrap ((h : Int) / 2 ^ s * 2 ^ s) != (h : Int)) = false := by
      rw [hround, bne_eq_false_iff_eq]
      have := Nat.div_add_mod h (2 ^ s)
      rw [Nat.mul_comm] at this
      omega
    have HO : Hid (((h - (if m < m2 then 1 else 0)) / 2 ^ s) ||| (if (m + 18446744073709551616 - m2) % 18446744073709551616 > 1 then 1 else 0) = Fl.uscaleN x hi lo s) := by
      show _ = _
      rw [HU.out, if_neg hz]
    clear hz hround hcast hq
    obtain ⟨c, hc⟩ : ∃ c : Nat, c = if m < m2 then 1 else 0 := ⟨_, rfl⟩
    obtain ⟨t, htt⟩ : ∃ t : Nat, t = if (m + 18446744073709551616 - m2) % 18446744073709551616 > 1 then 1 else 0 := ⟨_, rfl⟩
    have HO2 : Hid (((h - c) / 2 ^ s) ||| t = Fl.uscaleN x hi lo s) := by
      show _ = _
      rw [hc, htt]; exact HO.out
    have hc1 : c ≤ 1 := by rw [hc]; split <;> omega
    have ht1 : t ≤ 1 := by rw [htt]; split <;> omega
    have K1 : Hid (∀ W : World, Calls Tryz.prog 142 #[.bool (decide (m < m2))] W fun e w' => e = .returned (.int .u64 (c : Int)) ∧ W = w') := by
      intro W
      refine (bool2u_any _ W).mono fun e w' ⟨h1, h2⟩ => ⟨?_, h2⟩
      rw [h1, hc]
      by_cases h3 : m < m2
      · rw [if_pos h3, if_pos (decide_eq_true h3)]; rfl
      · rw [if_neg h3, if_neg (by rw [decide_eq_true_eq]; exact h3)]; rfl
    have K2 : Hid (∀ W : World, Calls Tryz.prog 142 #[.bool (decide (1 < IntKind.u64.wrap ((m : Int) - (m2 : Int))))] W fun e w' => e = .returned (.int .u64 (t : Int)) ∧ w' = W) := by
      intro W
      refine (bool2u_any _ W).mono fun e w' ⟨h1, h2⟩ => ⟨?_, h2.symm⟩
      rw [h1, htt, IntKind.wrap_u64]
      by_cases h3 : (m + 18446744073709551616 - m2) % 18446744073709551616 > 1
      · rw [if_pos h3, if_pos (decide_eq_true (by omega))]; rfl
      · rw [if_neg h3, if_neg (by rw [decide_eq_true_eq]; omega)]; rfl
    have HF : Hid (bits .or .u64 (((h : Int) - (c : Int)) / 2 ^ s) (t : Int) = ((Fl.uscaleN x hi lo s : Nat) : Int)) := by
      show _ = _
      rw [← HO2.out, show (h : Int) - (c : Int) = ((h - c : Nat) : Int) by omega, show ((h - c : Nat) : Int) / 2 ^ s = (((h - c) / 2 ^ s : Nat) : Int) by rw [Int.natCast_ediv, Int.natCast_pow]; rfl]
      exact u64_or_nat _ _ (by have := Nat.div_le_self (h - c) (2 ^ s); omega) (by omega)
    clear hc htt
    go_enter Tryz.func118, Tryz.ntmps118
    go_wp2_with (first
      | (go_at_call 149; first | ((with_reducible refine (unhide M1 w).mono ?_); rintro e w' ⟨rfl, rfl⟩) | ((with_reducible refine (unhide M2 w).mono ?_); rintro e w' ⟨rfl, rfl⟩))
      | (go_at_call 142; (with_reducible refine (K1.out w).mono ?_); rintro e w' ⟨rfl, rfl⟩))
    go_quiet ((go_at_call 142; exact Calls.quiet_of_same (K2.out _)))
    go_wp2
    go_ret
    exact ⟨by rw [← HF.out]; rfl, nq, rfl⟩

/-- What packing a mantissa hands back. -/
def Packed (neg : Bool) (m : Nat) (q : Int) (x y : Value) : Prop :=
  ((m < 4503599627370496 ∨ m = 9007199254740992) ∧ x = .float .f64 (Fl.wordOf neg m) ∧ y = .nilIface) ∨
  ((4503599627370496 ≤ m ∧ m < 9007199254740992) ∧ 972 ≤ q ∧ (∃ b, x = .float .f64 b) ∧ y = .iface 150 (.int .i64 1)) ∨
  ((4503599627370496 ≤ m ∧ m < 9007199254740992) ∧ q < 972 ∧ x = .float .f64 (Fl.wordOf neg ((q + 1074).toNat * 4503599627370496 + m)) ∧ y = .nilIface)

theorem pack_any (neg : Bool) (m : Nat) (q : Int) (w : World) (hm : m ≤ 9007199254740992) (hq : -1074 ≤ q) :
    Calls Tryz.prog 158 #[.int .u64 (signed neg m), .int .i64 q] w fun e w' => ∃ x y, e = .returned (.tuple #[x, y]) ∧ Packed neg m q x y ∧ w = w' := by
  by_cases h : m < 4503599627370496 ∨ m = 9007199254740992
  · exact (pack_small neg m q w hm h).mono fun e w' ⟨h1, h2⟩ => ⟨_, _, h1, .inl ⟨h, rfl, rfl⟩, h2⟩
  · by_cases h2 : 972 ≤ q
    · exact (pack_inf neg m q w (by omega) (by omega) h2).mono fun e w' ⟨⟨b, h1⟩, h3⟩ => ⟨_, _, h1, .inr (.inl ⟨⟨by omega, by omega⟩, h2, ⟨b, rfl⟩, rfl⟩), h3⟩
    · obtain ⟨k, rfl⟩ : ∃ k : Nat, q = (k : Int) - 1074 := ⟨(q + 1074).toNat, by omega⟩
      exact (pack_fin neg m k w (by omega) (by omega) (by omega)).mono fun e w' ⟨h1, h3⟩ => ⟨_, _, h1, .inr (.inr ⟨⟨by omega, by omega⟩, by omega, by rw [show ((k : Int) - 1074 + 1074).toNat = k by omega], rfl⟩), h3⟩

theorem sign_or (neg : Bool) (m : Nat) (h : m < 9223372036854775808) : bits .or .u64 ((signed neg 0 : Nat) : Int) (m : Int) = ((signed neg m : Nat) : Int) := by
  rw [u64_or_nat _ _ (signed_lt neg (by omega)) (by omega)]
  congr 1
  cases neg with
  | false => simp [signed, Fl.wordOf]
  | true =>
    simp only [signed, Fl.wordOf, if_true]
    exact nat_join 63 _ _ (by decide) h

/-- What 'parseFloat64' reckons with: the exponent, the shift, the scaled number. -/
def pE (d : Nat) (p : Int) : Int := min 1074 (53 - (Lib.bitLen d : Int) - Fl.lp p)
def pS (d : Nat) (p : Int) : Int := 61 - (Lib.bitLen d : Int) - Fl.lp p - pE d p
def pU (d : Nat) (p : Int) : Nat := Fl.uscaleN (d * 2 ^ (64 - Lib.bitLen d)) (Fl.hiT (p + 348).toNat) (Fl.loT (p + 348).toNat) (pS d p).toNat

def Parsed (d : Nat) (p : Int) (neg : Bool) (x y : Value) : Prop :=
  (64 ≤ pS d p ∧ x = .float .f64 (Fl.wordOf neg 0) ∧ y = .nilIface) ∨
  (pS d p < 64 ∧ pU d p < 36028797018963966 ∧ Packed neg (Fl.roundN (pU d p)) (-pE d p) x y) ∨
  (pS d p < 64 ∧ 36028797018963966 ≤ pU d p ∧ Packed neg (Fl.roundN ((pU d p / 2) ||| (pU d p % 2))) (-(pE d p - 1)) x y)

theorem len64_any (d : Nat) (hd : d < 18446744073709551616) (w : World) : Calls Tryz.prog 96 #[.int .u64 d] w fun e w' => e = .returned (.int .i64 (Lib.bitLen d)) ∧ w = w' :=
  (Tryz.bits_Len64 d w (by omega) (by omega)).mono fun _ _ ⟨h1, h2⟩ => ⟨h1, h2.symm⟩

theorem bitLen_facts (d : Nat) (h0 : 0 < d) (hd : d < 18446744073709551616) : 1 ≤ Lib.bitLen d ∧ Lib.bitLen d ≤ 64 ∧ 2 ^ (Lib.bitLen d - 1) ≤ d ∧ d < 2 ^ Lib.bitLen d := by
  have main : ∀ n d : Nat, 0 < d → d < 2 ^ n → n ≤ 64 → 1 ≤ Lib.bitLen d ∧ 2 ^ (Lib.bitLen d - 1) ≤ d ∧ d < 2 ^ Lib.bitLen d := by
    intro n
    induction n with
    | zero => intro d h0 h _; simp at h; omega
    | succ n ih =>
      intro d h0 h hn
      have h64 : d < 2 ^ 64 := Nat.lt_of_lt_of_le h (Nat.pow_le_pow_right (by omega) hn)
      have e := Lib.bitLen_half d (by omega) h64
      rcases Nat.eq_zero_or_pos (d / 2) with hz | hz
      · have hd1 : d = 1 := by omega
        subst hd1
        decide
      · obtain ⟨i1, i2, i3⟩ := ih (d / 2) hz (by rw [Nat.pow_succ] at h; omega) (by omega)
        rw [e]
        generalize Lib.bitLen (d / 2) = c at *
        rw [show 1 + c - 1 = (c - 1) + 1 by omega, Nat.pow_succ, Nat.add_comm 1 c, Nat.pow_succ]
        omega
  obtain ⟨h1, h2, h3⟩ := main 64 d h0 hd (Nat.le_refl _)
  exact ⟨h1, Lib.bitLen_le d 64 (Nat.le_refl _) hd, h2, h3⟩
end Go.Proofs.YtgmbjdoifkjdhaaGreatDoor
end
section
namespace Go.Proofs.YtgmbjdoifkjdhaaGreatDoor
open Go.RowKit
set_option maxHeartbeats 1000000 in
set_option maxRecDepth 100000 in
theorem parse64_any (B : Nat) (d : Nat) (p : Int) (neg : Bool) (w : World) (hG : Glob B w) (hd0 : 0 < d) (hd : d < 18446744073709551616) (hp0 : -345 ≤ p) (hp1 : p ≤ 310) :
    Calls Tryz.prog 145 #[.int .u64 d, .int .i64 p, .int .u64 (signed neg 0)] w fun e w' => ∃ x y, e = .returned (.tuple #[x, y]) ∧ Parsed d p neg x y ∧ Below w.heap.size w w' := by
  obtain ⟨b1, b64, blo, bhi⟩ := bitLen_facts d hd0 hd
  have lp1 : -1200 ≤ Fl.lp p := by unfold Fl.lp; omega
  have lp2 : Fl.lp p ≤ 1200 := by unfold Fl.lp; omega
  obtain ⟨b, hb⟩ : ∃ b, Lib.bitLen d = b := ⟨_, rfl⟩
  obtain ⟨l, hl⟩ : ∃ l, Fl.lp p = l := ⟨_, rfl⟩
  have K1 : Hid (∀ W : World, Calls Tryz.prog 96 #[.int .u64 d] W fun e w' => e = .returned (.int .i64 (b : Int)) ∧ W = w') := by
    intro W; rw [← hb]; exact len64_any d hd W
  have K2 : Hid (∀ W : World, Calls Tryz.prog 117 #[.int .i64 p] W fun e w' => e = .returned (.int .i64 l) ∧ W = w') := by
    intro W; rw [← hl]; exact log2_any p W (by omega) (by omega)
  rw [hb] at b1 b64 blo bhi
  rw [hl] at lp1 lp2
  obtain ⟨e, he⟩ : ∃ e, min 1074 (53 - (b : Int) - l) = e := ⟨_, rfl⟩
  have e1 : e ≤ 1074 := by omega
  have e2 : -1211 ≤ e := by omega
  have e3 : e ≤ 53 - b - l := by omega
  obtain ⟨s, hs⟩ : ∃ s : Nat, (s : Int) = 61 - b - l - e := ⟨(61 - b - l - e).toNat, by omega⟩
  have HB := hide hb
  have HL := hide hl
  have HS := hide hs
  have s8 : 8 ≤ s := by omega
  have s1 : s ≤ 2500 := by omega
  have hG1 : Glob B (w.alloc (.cells #[.int .u64 0, .int .u64 0, .int .i64 0] 192)) := hG.up ((Below.refl _ _).alloc (Nat.le_refl _) _)
  have K3 : Hid (Calls Tryz.prog 116 #[.pointer (some ⟨w.heap.size, 0, none⟩), .int .i64 (e - (64 - (b : Int))), .int .i64 p, .int .i64 l] (w.alloc (.cells #[.int .u64 0, .int .u64 0, .int .i64 0] 192)) fun r w' => r = .returned (.tuple #[]) ∧
      Blk w' w.heap.size 192 #[.int .u64 (Fl.hiT (p + 348).toNat), .int .u64 (Fl.loT (p + 348).toNat), .int .i64 s] ∧ Below w.heap.size w w') := by
    have := prescale_any B w.heap.size p (e - (64 - (b : Int))) l _ hG1 hG.size (by omega) (by omega) (by omega) (by omega) (by omega) (by omega) (Blk.new w 192 _)
    rw [show -(e - (64 - (b : Int)) + l + 3) = (s : Int) by omega] at this
    exact this.mono fun r w' ⟨h1, h2, h3⟩ => ⟨h1, h2, ((Below.refl _ _).alloc (Nat.le_refl _) _).trans h3⟩
  clear hb hl hG1 hs
  by_cases h64 : s < 64
  · obtain ⟨x, hx⟩ : ∃ x, d * 2 ^ (64 - b) = x := ⟨_, rfl⟩
    have hx64 : x < 18446744073709551616 := by
      have := Nat.mul_lt_mul_of_pos_right bhi (Nat.two_pow_pos (64 - b))
      rw [← Nat.pow_add, show b + (64 - b) = 64 by omega] at this
      omega
    have hx63 : 9223372036854775808 ≤ x := by
      have := Nat.mul_le_mul_right (2 ^ (64 - b)) blo
      rw [← Nat.pow_add, show b - 1 + (64 - b) = 63 by omega] at this
      omega
    have hxw : IntKind.u64.wrap ((d : Int) * 2 ^ (64 - b)) = (x : Int) := by
      rw [IntKind.wrap_u64, ← hx, show (d : Int) * 2 ^ (64 - b) = ((d * 2 ^ (64 - b) : Nat) : Int) by rw [Int.natCast_mul, Int.natCast_pow]; rfl]
      omega
    have F := Fl.row_facts (p + 348).toNat (by omega)
    have hhi := F.hi1
    have hhi0 := F.hi0
    have hlo := F.lo1
    obtain ⟨u, hu⟩ : ∃ u, Fl.uscaleN x (Fl.hiT (p + 348).toNat) (Fl.loT (p + 348).toNat) s = u := ⟨_, rfl⟩
    have hu56 : u ≤ 72057594037927936 := by
      have h1 := @Fl.uscaleN_le x (Fl.hiT (p + 348).toNat) (Fl.loT (p + 348).toNat) s hx64 (by omega)
      have h2 := Nat.div_le_div_left (Nat.pow_le_pow_right (show 0 < 2 by omega) s8) (Nat.two_pow_pos 8) (a := 18446744073709551615)
      rw [hu] at h1
      omega
    have K4 : Hid (∀ W : World, Blk W w.heap.size 192 #[.int .u64 (Fl.hiT (p + 348).toNat), .int .u64 (Fl.loT (p + 348).toNat), .int .i64 s] → Calls Tryz.prog 118 #[.int .u64 x, .pointer (some ⟨w.heap.size, 0, none⟩)] W (Quiet (.int .u64 (u : Nat)) W)) := by
      intro W hW
      rw [← hu]
      exact uscale_any x _ _ s w.heap.size W hx64 (by omega) (by omega) h64 (by have := Nat.mul_le_mul hx63 hhi0; omega) hW
    have HX := hide hx
    have HU := hide hu
    clear hx hu F hhi hhi0 hlo bhi blo hx64 hx63
    obtain ⟨t, ht⟩ : ∃ t : Nat, t = if 36028797018963966 ≤ u then 1 else 0 := ⟨_, rfl⟩
    have ht1 : t ≤ 1 := by rw [ht]; split <;> omega
    have K5 : Hid (∀ W : World, Calls Tryz.prog 124 #[.bool (decide ((36028797018963966 : Int) ≤ (u : Int)))] W fun e w' => e = .returned (.int .i64 (t : Int)) ∧ W = w') := by
      intro W
      refine (bool2i_any _ W).mono fun e w' ⟨h1, h2⟩ => ⟨?_, h2⟩
      rw [h1, ht]
      by_cases h3 : 36028797018963966 ≤ u
      · rw [if_pos h3, if_pos (decide_eq_true (by omega))]; rfl
      · rw [if_neg h3, if_neg (by rw [decide_eq_true_eq]; omega)]; rfl
    obtain ⟨v, hv⟩ : ∃ v : Nat, v = (u / 2 ^ t) ||| (u % 2 * t) := ⟨_, rfl⟩
    have hv' : v = if 36028797018963966 ≤ u then (u / 2) ||| (u % 2) else u := by
      rw [hv, ht]
      by_cases h3 : 36028797018963966 ≤ u
      · rw [if_pos h3, if_pos h3]; simp
      · rw [if_neg h3, if_neg h3]; simp
    have hv55 : v ≤ 36028797018963969 := by
      rw [hv']
      split
      · rcases Nat.mod_two_eq_zero_or_one u with h | h
        · rw [h, Nat.or_zero]; omega
        · rw [h, Fl.or_one]; omega
      · omega
    have hor : bits .or .u64 ((u : Int) / 2 ^ t) (bits .and .u64 (u : Int) 1) = (v : Int) := by
      rw [and1 u (by omega), show (u : Int) / 2 ^ t = ((u / 2 ^ t : Nat) : Int) by rw [Int.natCast_ediv, Int.natCast_pow]; rfl, u64_or_nat _ _ (by have := Nat.div_le_self u (2 ^ t); omega) (by omega), hv]
      congr 1
      rcases (show t = 0 ∨ t = 1 by omega) with h | h
      · subst h
        rw [Nat.pow_zero, Nat.div_one, Nat.mul_zero, Nat.or_zero]
        rcases Nat.mod_two_eq_zero_or_one u with h | h
        · rw [h, Nat.or_zero]
        · rw [h, Fl.or_one]; omega
      · subst h; rw [Nat.mul_one]
    have hr53 : Fl.roundN v ≤ 9007199254740992 := by unfold Fl.roundN; omega
    have hso := sign_or neg (Fl.roundN v) (by omega)
    obtain ⟨m, hm⟩ : ∃ m, Fl.roundN v = m := ⟨_, rfl⟩
    have K6 : Hid (∀ W : World, Calls Tryz.prog 122 #[.int .u64 v] W fun e w' => e = .returned (.int .u64 (m : Nat)) ∧ W = w') := by
      intro W; rw [← hm]; exact round_any v W (by omega)
    rw [hm] at hso hr53
    have HV := hide hv'
    have HT := hide ht
    have HM := hide hm
    have e4 : e - t ≤ 1074 := by omega
    have K7 : Hid (∀ W : World, Calls Tryz.prog 158 #[.int .u64 (signed neg m), .int .i64 (-(e - (t : Int)))] W fun r w' => ∃ x y, r = .returned (.tuple #[x, y]) ∧ Packed neg m (-(e - (t : Int))) x y ∧ W = w') := by
      intro W
      exact pack_any neg m _ W hr53 (by omega)
    clear hv hv' ht hm
    go_enter Tryz.func145, Tryz.ntmps145
    go_wp2_with (first
      | (go_at_call 96; (with_reducible refine (K1.out _).mono ?_); rintro e w' ⟨rfl, rfl⟩)
      | (go_at_call 117; (with_reducible refine (K2.out _).mono ?_); rintro e w' ⟨rfl, rfl⟩)
      | (go_at_call 116; (with_reducible refine K3.out.mono ?_); rintro e w1 ⟨rfl, hb1, hw1⟩; have c2 : w1.cell? ⟨w.heap.size, 2, none⟩ = some (.int .i64 s) := hb1.cell 2)
      | (go_at_call 118; (with_reducible refine (K4.out _ hb1).mono ?_); rintro e w2 ⟨rfl, n2, rfl⟩)
      | (go_at_call 125; (with_reducible refine (unmin_any _).mono ?_); rintro e w' ⟨rfl, rfl⟩)
      | (go_at_call 124; (with_reducible refine (K5.out _).mono ?_); rintro e w' ⟨rfl, rfl⟩)
      | (go_at_call 122; (with_reducible refine (K6.out _).mono ?_); rintro e w' ⟨rfl, rfl⟩)
      | (go_at_call 158; (with_reducible refine (K7.out _).mono ?_); rintro e w' ⟨rx, ry, rfl, hpk, rfl⟩)
      | fail)
    go_ret2
    refine ⟨rx, ry, rfl, ?_, below_drewN hw1 n2⟩
    have eE : pE d p = e := by unfold pE; rw [HB.out, HL.out]; exact he
    have eS : pS d p = s := by unfold pS; rw [eE, HB.out, HL.out]; have := HS.out; omega
    have eU : pU d p = u := by unfold pU; rw [eS, HB.out, HX.out, Int.toNat_natCast]; exact HU.out
    have hv := HV.out
    have hm := HM.out
    have ht := HT.out
    unfold Parsed
    rw [eE, eS, eU]
    right
    by_cases h3 : 36028797018963966 ≤ u
    · right
      rw [if_pos h3] at hv ht
      rw [hv] at hm
      subst ht
      exact ⟨by omega, h3, by rw [hm]; exact hpk⟩
    · left
      rw [if_neg h3] at hv ht
      rw [hv] at hm
      subst ht
      refine ⟨by omega, by omega, ?_⟩
      rw [hm]
      have e0 : -(e - ((0 : Nat) : Int)) = -e := by omega
      rw [e0] at hpk
      exact hpk
  · have hso := or0 (signed neg 0) (signed_lt neg (by omega))
    have hd143 := run143
    have h64' : 64 ≤ s := by omega
    clear h64
    go_enter Tryz.func145, Tryz.ntmps145
    go_wp2_with (first
      | (go_at_call 96; (with_reducible refine (K1.out _).mono ?_); rintro e w' ⟨rfl, rfl⟩)
      | (go_at_call 117; (with_reducible refine (K2.out _).mono ?_); rintro e w' ⟨rfl, rfl⟩)
      | (go_at_call 116; (with_reducible refine K3.out.mono ?_); rintro e w1 ⟨rfl, hb1, hw1⟩; have c2 : w1.cell? ⟨w.heap.size, 2, none⟩ = some (.int .i64 s) := hb1.cell 2))
    go_ret2
    have eE : pE d p = e := by unfold pE; rw [HB.out, HL.out]; exact he
    have eS : pS d p = s := by unfold pS; rw [eE, HB.out, HL.out]; have := HS.out; omega
    exact ⟨_, _, rfl, .inl ⟨by rw [eS]; omega, rfl, rfl⟩, hw1⟩

theorem packed_good {neg : Bool} {m : Nat} {q : Int} {x y : Value} (h : Packed neg m q x y) : ∃ b, x = .float .f64 b ∧ ((y = .nilIface ∧ Fl.Good b) ∨ y = .iface 150 (.int .i64 1)) := by
  rcases h with ⟨h, rfl, rfl⟩ | ⟨_, _, ⟨b, rfl⟩, rfl⟩ | ⟨h, h2, rfl, rfl⟩
  · exact ⟨_, rfl, .inl ⟨rfl, Fl.good_word neg (by omega)⟩⟩
  · exact ⟨b, rfl, .inr rfl⟩
  · exact ⟨_, rfl, .inl ⟨rfl, Fl.good_word neg (by omega)⟩⟩

theorem parsed_good {d : Nat} {p : Int} {neg : Bool} {x y : Value} (h : Parsed d p neg x y) : ∃ b, x = .float .f64 b ∧ ((y = .nilIface ∧ Fl.Good b) ∨ y = .iface 150 (.int .i64 1)) := by
  rcases h with ⟨_, rfl, rfl⟩ | ⟨_, _, h⟩ | ⟨_, _, h⟩
  · exact ⟨_, rfl, .inl ⟨rfl, Fl.good_word neg (by omega)⟩⟩
  · exact packed_good h
  · exact packed_good h

theorem parsed_near {d : Nat} {p : Int} {neg : Bool} {x y : Value} {M k : Nat} (h : Parsed d p neg x y) (hd0 : 0 < d) (hd : d < 144115188075855872) (hp0 : -345 ≤ p) (hp1 : p ≤ 310)
    (hM0 : 0 < M) (hM : M < 9007199254740992) (hk : k = 0 ∨ 4503599627370496 ≤ M) (hk2 : k < 2046) (hn : Fl.Near (d * 10 ^ p.toNat * 2 ^ 1076) (10 ^ (-p).toNat * 2 ^ k) M (0 < k)) :
    x = .float .f64 (Fl.wordOf neg (k * 4503599627370496 + M)) ∧ y = .nilIface := by
  obtain ⟨b1, b64, blo, bhi⟩ := bitLen_facts d hd0 (by omega)
  have b57 : Lib.bitLen d ≤ 57 := Lib.bitLen_le d 57 (by omega) (by rw [show (2 : Nat) ^ 57 = 144115188075855872 from rfl]; exact hd)
  obtain ⟨s8, s64, hp⟩ := Fl.parse_near (i := (p + 348).toNat) (e := pE d p) (s := pS d p) (by omega) (by omega) b1 b57 blo bhi hM0 hM hk hn rfl rfl
  have fin : ∀ q : Int, q = (k : Int) - 1074 → Packed neg M q x y → x = .float .f64 (Fl.wordOf neg (k * 4503599627370496 + M)) ∧ y = .nilIface := by
    intro q hq hpk
    rcases hpk with ⟨h, rfl, rfl⟩ | ⟨_, h, _, _⟩ | ⟨_, _, rfl, rfl⟩
    · have : k = 0 := by omega
      subst this
      exact ⟨by rw [Nat.zero_mul, Nat.zero_add], rfl⟩
    · omega
    · exact ⟨by rw [hq, show ((k : Int) - 1074 + 1074).toNat = k by omega], rfl⟩
  rcases hp with ⟨hu, hr, he⟩ | ⟨hu, hr, he⟩
  · rcases h with ⟨h, _⟩ | ⟨_, _, h⟩ | ⟨_, h2, _⟩
    · omega
    · change Fl.roundN (pU d p) = M at hr
      rw [hr] at h
      exact fin _ (by omega) h
    · change pU d p < 36028797018963966 at hu
      omega
  · rcases h with ⟨h, _⟩ | ⟨_, h2, _⟩ | ⟨_, _, h⟩
    · omega
    · change 36028797018963966 ≤ pU d p at hu
      omega
    · change Fl.roundN ((pU d p / 2) ||| (pU d p % 2)) = M at hr
      rw [hr] at h
      exact fin _ (by omega) h
end Go.Proofs.YtgmbjdoifkjdhaaGreatDoor
end
section
namespace Go.Proofs.YtgmbjdoifkjdhaaGreatDoor
open Go.RowKit

/-- What 'atof64exact' hands back: where it says so, the number nearest. -/
def Exact (d : Nat) (p : Int) (neg : Bool) (x y : Value) : Prop :=
  ∃ b c, x = .float .f64 b ∧ y = .bool c ∧ (c = true → Fl.Good b ∧ ∀ M k : Nat, 0 < M → M < 9007199254740992 → (k = 0 ∨ 4503599627370496 ≤ M) → k < 2046 →
    Fl.Near (d * 10 ^ p.toNat * 2 ^ 1076) (10 ^ (-p).toNat * 2 ^ k) M (0 < k) → b = Fl.wordOf neg (k * 4503599627370496 + M))

theorem neg_word (r : Nat) (h : r < 9223372036854775808) : Op.negFloat .f64 (Fl.wordOf false r) = Fl.wordOf true r := by
  unfold Op.negFloat Fl.wordOf
  rw [if_neg (by decide), if_pos rfl, show 2 ^ (FloatKind.f64.format.exponentBits + FloatKind.f64.format.fractionBits) = 2 ^ 63 from rfl]
  have e : r ^^^ 2 ^ 63 = r ||| 2 ^ 63 := by
    apply Nat.eq_of_testBit_eq
    intro i
    rw [Nat.testBit_xor, Nat.testBit_or, Nat.testBit_two_pow]
    by_cases hi : 63 = i
    · subst hi
      rw [Nat.testBit_lt_two_pow h]; simp
    · simp [hi]
  rw [e, Nat.or_comm]
  exact nat_join 63 _ _ (by decide) h

/-- The float of d, with its sign. -/
structure Whole (d r : Nat) (M0 k0 : Nat) : Prop where
  of : floatOfInt .f64 (d : Int) = Fl.wordOf false r
  eq : r = k0 * 4503599627370496 + M0
  M1 : M0 < 9007199254740992
  M0' : 4503599627370496 ≤ M0
  k1 : k0 < 2046
  val : M0 * 2 ^ k0 = d * 2 ^ 1074

theorem whole_of (d : Nat) (h0 : 0 < d) (h : d < 4503599627370496) : ∃ r M0 k0, Whole d r M0 k0 := by
  obtain ⟨M, k, h1, h2, h3, h4, h5⟩ := Fl.nearest_whole false h0 (by omega)
  refine ⟨_, M, k, ?_, rfl, h2, h3, h4, h5⟩
  rw [← h1]
  show Ieee.double.nearest (decide ((d : Int) < 0)) (d : Int).natAbs 0 = _
  rw [show decide ((d : Int) < 0) = false from decide_eq_false (by omega), Int.natAbs_natCast]

theorem neg_run (r : Nat) (h : r < 9223372036854775808) (W : World) : (Op.unary .neg (.float .f64 (Fl.wordOf false r))).run Tryz.prog W = .ok (.float .f64 (Fl.wordOf true r)) W := by
  show Sem.run Tryz.prog (pure (Value.float .f64 (Op.negFloat .f64 (Fl.wordOf false r)))) W = _
  rw [neg_word r h]
  rfl

theorem mul_run {x y r : Nat} (h : Ieee.double.mul x y = some r) (W : World) : (binOp .mul 36 (.float .f64 x) (.float .f64 y)).run Tryz.prog W = .ok (.float .f64 r) W := run_float_arith W .mul 36 .f64 x y r h
theorem div_run {x y r : Nat} (h : Ieee.double.div x y = some r) (W : World) : (binOp .quo 36 (.float .f64 x) (.float .f64 y)).run Tryz.prog W = .ok (.float .f64 r) W := run_float_arith W .quo 36 .f64 x y r h

set_option maxHeartbeats 1000000 in
set_option maxRecDepth 100000 in
theorem exact_large (B : Nat) (d : Nat) (p : Int) (neg : Bool) (w : World) (hG : Glob B w) (hd : 4503599627370496 ≤ d) (hd2 : d < 18446744073709551616) :
    Calls Tryz.prog 144 #[.int .u64 d, .int .i64 p, .bool neg] w fun e w' => ∃ x y, e = .returned (.tuple #[x, y]) ∧ Exact d p neg x y ∧ w = w' := by
  have fm := hG.fm
  have ht : ((d : Int) / 4503599627370496 != 0) = true := by
    rw [bne_iff_ne]; omega
  clear hd hd2
  go_enter Tryz.func144, Tryz.ntmps144
  go_wp2
  go_ret2
  exact ⟨_, _, rfl, ⟨_, _, rfl, rfl, fun h => by cases h⟩, rfl⟩

theorem small_bne {d : Nat} (hd : d < 4503599627370496) : ((d : Int) / 4503599627370496 != 0) = false := by
  rw [bne_eq_false_iff_eq]; omega

/-- A whole number. -/
theorem exact_zero_law {d r M0 k0 : Nat} (neg : Bool) (W : Whole d r M0 k0) : Exact d 0 neg (.float .f64 (Fl.wordOf neg r)) (.bool true) := by
  have hr : r ≤ 9218868437227405312 := by have := W.eq; have := W.M1; have := W.k1; omega
  refine ⟨_, _, rfl, rfl, fun _ => ⟨Fl.good_word neg hr, fun M k h1 h2 h3 h4 h5 => ?_⟩⟩
  -- both are the nearest word
  have n1 : Ieee.double.nearest neg d 0 = Fl.wordOf neg (k * 4503599627370496 + M) := by
    rw [← Fl.word_eq]
    exact Fl.nearest_near h1 h2 h3 h4 h5
  have n2 : Ieee.double.nearest neg d 0 = Fl.wordOf neg r := by
    rw [W.eq, ← Fl.word_eq]
    apply Fl.nearest_near (by have := W.M0'; omega) W.M1 (.inr W.M0') W.k1
    obtain ⟨z, hz⟩ : ∃ z : Nat, z = 1076 := ⟨_, rfl⟩
    obtain ⟨y, hy⟩ : ∃ y : Nat, y = 1074 := ⟨_, rfl⟩
    have hv := W.val
    rw [← hy] at hv
    rw [← hz]
    have e4 : d * 2 ^ (0 : Int).toNat * 2 ^ z = 4 * M0 * (2 ^ (-(0 : Int)).toNat * 2 ^ k0) := by
      have h6 := Fl.two_pow_eq (show z = y + 2 by omega)
      rw [h6, Nat.pow_add, show (2 : Nat) ^ 2 = 4 from rfl, show (-(0 : Int)).toNat = 0 from rfl, show (0 : Int).toNat = 0 from rfl, Nat.pow_zero]
      clear h5 n1 h6 hz hy W
      have : 4 * M0 * (1 * 2 ^ k0) = 4 * (M0 * 2 ^ k0) := by grind
      rw [this, hv]
      grind
    rw [e4]
    have hb : 0 < 2 ^ (-(0 : Int)).toNat * 2 ^ k0 := Nat.mul_pos (Nat.two_pow_pos _) (Nat.two_pow_pos _)
    generalize 2 ^ (-(0 : Int)).toNat * 2 ^ k0 = b at *
    refine ⟨by omega, ?_, fun _ => ⟨by omega, ?_⟩, fun _ _ => by omega⟩
    · rw [Nat.add_mul]; omega
    · rw [Nat.add_mul]; omega
  rw [← n1, n2]

set_option maxHeartbeats 1000000 in
set_option maxRecDepth 100000 in
theorem exact_zero (B : Nat) (d : Nat) (neg : Bool) (w : World) (hG : Glob B w) (hd0 : 0 < d) (hd : d < 4503599627370496) :
    Calls Tryz.prog 144 #[.int .u64 d, .int .i64 0, .bool neg] w fun e w' => ∃ x y, e = .returned (.tuple #[x, y]) ∧ Exact d 0 neg x y ∧ w = w' := by
  have fm := hG.fm
  have ht := small_bne hd
  obtain ⟨r, M0, k0, W⟩ := whole_of d hd0 hd
  have hF := W.of
  have hN := neg_run r (by have := W.eq; have := W.M1; have := W.k1; omega)
  have L := hide (exact_zero_law neg W)
  clear W hd hd0
  cases neg
  all_goals
    go_enter Tryz.func144, Tryz.ntmps144
    go_wp2
    go_ret2
    exact ⟨_, _, rfl, L.out, rfl⟩

theorem Whole.word {d r M0 k0 : Nat} (W : Whole d r M0 k0) (neg : Bool) : Fl.wordOf neg r = Fl.wordOf neg (k0 * 4503599627370496 + M0) := by rw [W.eq]

/-- A whole number times a power of ten. -/
theorem exact_mul_law {d r M0 k0 p : Nat} (neg : Bool) (W : Whole d r M0 k0) (hp : p ≤ 22) :
    ∃ g, Ieee.double.mul (Fl.wordOf neg r) (Fl.pw p) = some g ∧ Exact d p neg (.float .f64 g) (.bool true) := by
  obtain ⟨n, j, hr, he, hj0, hj1, hn0, hn1⟩ := Fl.pw_read p hp
  have hm := Fl.mul_num (x := Fl.wordOf neg r) (by rw [W.word]; exact Fl.read_at neg W.M1 (.inr W.M0') W.k1) hr
  refine ⟨_, hm, _, _, rfl, rfl, fun _ => ⟨Fl.good_nearest _ _ _, fun M k h1 h2 h3 h4 h5 => ?_⟩⟩
  rw [show ((p : Int)).toNat = p by omega, show (-(p : Int)).toNat = 0 by omega, Nat.pow_zero] at h5
  have := Fl.mul_near (W.word neg) W.M1 W.M0' W.k1 W.val hp h1 h2 h3 h4 h5
  rw [hm] at this
  exact Option.some.inj this

/-- A whole number divided by a power of ten. -/
theorem exact_div_law {d r M0 k0 p : Nat} (neg : Bool) (W : Whole d r M0 k0) (hp : p ≤ 22) :
    ∃ g, Ieee.double.div (Fl.wordOf neg r) (Fl.pw p) = some g ∧ Exact d (-(p : Int)) neg (.float .f64 g) (.bool true) := by
  obtain ⟨n, j, hr, he, hj0, hj1, hn0, hn1⟩ := Fl.pw_read p hp
  have hm := Fl.div_num (x := Fl.wordOf neg r) (by rw [W.word]; exact Fl.read_at neg W.M1 (.inr W.M0') W.k1) hr (by omega)
  refine ⟨_, hm, _, _, rfl, rfl, fun _ => ⟨Fl.good_nearest _ _ _, fun M k h1 h2 h3 h4 h5 => ?_⟩⟩
  rw [show (-(p : Int)).toNat = 0 by omega, show (-(-(p : Int))).toNat = p by omega, Nat.pow_zero, Nat.mul_one] at h5
  have := Fl.div_near (W.word neg) W.M1 W.M0' W.k1 W.val hp h1 h2 h3 h4 h5
  rw [hm] at this
  exact Option.some.inj this

/-- A whole number times two powers of ten, where the first product is small. -/
theorem exact_two_law {d r M0 k0 p : Nat} (neg : Bool) (W : Whole d r M0 k0) (hd : 0 < d) (hp : p ≤ 15) :
    ∃ g, Ieee.double.mul (Fl.wordOf neg r) (Fl.pw p) = some g ∧
      ((neg = false ∧ Ieee.double.order g Fl.e15 = some .gt) ∨ (neg = true ∧ (Ieee.double.order g Fl.e15 == some .gt) = false ∧ Ieee.double.order g Fl.e15n = some .lt) ∨
       ((Ieee.double.order g Fl.e15 == some .gt) = false ∧ (Ieee.double.order g Fl.e15n == some .lt) = false ∧ ∃ g2, Ieee.double.mul g (Fl.pw 22) = some g2 ∧ Exact d ((22 : Int) + p) neg (.float .f64 g2) (.bool true))) := by
  rcases Fl.mul_value (W.word neg) W.M1 W.M0' W.k1 W.val (show p ≤ 22 by omega) hd with ⟨hlt, M1, k1, a1, a2, a3, a4, a5⟩ | ⟨hge, r1, b1, b2, b3⟩
  · refine ⟨_, a5, ?_⟩
    have three : d * 10 ^ p ≤ 1000000000000000 → ∃ g2, Ieee.double.mul (Fl.wordOf neg (k1 * 4503599627370496 + M1)) (Fl.pw 22) = some g2 ∧ Exact d ((22 : Int) + p) neg (.float .f64 g2) (.bool true) := by
      intro _
      obtain ⟨n, j, hr, he, hj0, hj1, hn0, hn1⟩ := Fl.pw_read 22 (Nat.le_refl _)
      have hm := Fl.mul_num (x := Fl.wordOf neg (k1 * 4503599627370496 + M1)) (Fl.read_at neg a1 (.inr a2) a3) hr
      refine ⟨_, hm, _, _, rfl, rfl, fun _ => ⟨Fl.good_nearest _ _ _, fun M k h1 h2 h3 h4 h5 => ?_⟩⟩
      rw [show ((22 : Int) + p).toNat = p + 22 by omega, show (-((22 : Int) + p)).toNat = 0 by omega, Nat.pow_zero, Nat.pow_add, ← Nat.mul_assoc] at h5
      have := Fl.mul_near (neg := neg) (x := Fl.wordOf neg (k1 * 4503599627370496 + M1)) rfl a1 a2 a3 a4 (Nat.le_refl 22) h1 h2 h3 h4 h5
      rw [hm] at this
      exact Option.some.inj this
    cases neg with
    | false =>
      obtain ⟨o1, o2⟩ := Fl.order_pos a1 a2 a3 a4
      rcases Nat.lt_or_ge 1000000000000000 (d * 10 ^ p) with h | h
      · exact .inl ⟨rfl, o1 h⟩
      · exact .inr (.inr ⟨(o2 h).1, (o2 h).2, three h⟩)
    | true =>
      obtain ⟨o1, o2, o3⟩ := Fl.order_neg a1 a2 a3 a4
      rcases Nat.lt_or_ge 1000000000000000 (d * 10 ^ p) with h | h
      · exact .inr (.inl ⟨rfl, o3, o1 h⟩)
      · exact .inr (.inr ⟨o3, o2 h, three h⟩)
  · refine ⟨_, b3, ?_⟩
    cases neg with
    | false => exact .inl ⟨rfl, Fl.order_big_pos b1 b2⟩
    | true => exact .inr (.inl ⟨rfl, Fl.order_big_neg' b2, Fl.order_big_neg b1 b2⟩)

theorem not_exact (d : Nat) (p : Int) (neg : Bool) (b : Nat) : Exact d p neg (.float .f64 b) (.bool false) := ⟨_, _, rfl, rfl, fun h => by cases h⟩

/-- How the float of d stands to 1e15. -/
theorem cmp_law {d r M0 k0 : Nat} (neg : Bool) (W : Whole d r M0 k0) :
    (neg = false ∧ Ieee.double.order (Fl.wordOf neg r) Fl.e15 = some .gt) ∨ (neg = true ∧ (Ieee.double.order (Fl.wordOf neg r) Fl.e15 == some .gt) = false ∧ Ieee.double.order (Fl.wordOf neg r) Fl.e15n = some .lt) ∨
       ((Ieee.double.order (Fl.wordOf neg r) Fl.e15 == some .gt) = false ∧ (Ieee.double.order (Fl.wordOf neg r) Fl.e15n == some .lt) = false) := by
  rw [W.word]
  cases neg with
  | false =>
    obtain ⟨o1, o2⟩ := Fl.order_pos W.M1 W.M0' W.k1 W.val
    rcases Nat.lt_or_ge 1000000000000000 d with h | h
    · exact .inl ⟨rfl, o1 h⟩
    · exact .inr (.inr (o2 h))
  | true =>
    obtain ⟨o1, o2, o3⟩ := Fl.order_neg W.M1 W.M0' W.k1 W.val
    rcases Nat.lt_or_ge 1000000000000000 d with h | h
    · exact .inr (.inl ⟨rfl, o3, o1 h⟩)
    · exact .inr (.inr ⟨o3, o2 h⟩)

set_option maxHeartbeats 1000000 in
set_option maxRecDepth 100000 in
theorem exact_mul (B : Nat) (d : Nat) (p : Int) (neg : Bool) (w : World) (hG : Glob B w) (hd0 : 0 < d) (hd : d < 4503599627370496) (hp0 : 0 < p) (hp1 : p ≤ 22) :
    Calls Tryz.prog 144 #[.int .u64 d, .int .i64 p, .bool neg] w fun e w' => ∃ x y, e = .returned (.tuple #[x, y]) ∧ Exact d p neg x y ∧ w = w' := by
  have fm := hG.fm
  obtain ⟨tb, to, _, ht, htc⟩ := hG.pw
  have hc1 := htc p.toNat (by omega)
  clear htc
  have hts := small_bne hd
  obtain ⟨r, M0, k0, W⟩ := whole_of d hd0 hd
  have hF := W.of
  have hN := neg_run r (by have := W.eq; have := W.M1; have := W.k1; omega)
  obtain ⟨g, hg, hE⟩ := exact_mul_law (p := p.toNat) neg W (by omega)
  rw [show ((p.toNat : Nat) : Int) = p by omega] at hE
  have hM := mul_run hg
  have hX := hide (not_exact d p neg)
  have hC := cmp_law neg W
  have L := hide hE
  clear W hd hd0 hE hg
  unfold Fl.e15 Fl.e15n at hC
  rcases hC with ⟨rfl, hE⟩ | ⟨rfl, hE1, hE2⟩ | ⟨hE1, hE2⟩
  · have hE' : (FloatKind.f64.format.order (Fl.wordOf false r) 4831355200913801216 == some Ordering.gt) = true := by
      show (Ieee.double.order (Fl.wordOf false r) 4831355200913801216 == some Ordering.gt) = true
      rw [hE]; rfl
    clear hE
    go_enter Tryz.func144, Tryz.ntmps144
    go_wp2
    go_ret2
    exact ⟨_, _, rfl, hX.out _, rfl⟩
  · have hE1' : (FloatKind.f64.format.order (Fl.wordOf true r) 4831355200913801216 == some Ordering.gt) = false := hE1
    have hE2' : (FloatKind.f64.format.order (Fl.wordOf true r) 14054727237768577024 == some Ordering.lt) = true := by
      show (Ieee.double.order (Fl.wordOf true r) 14054727237768577024 == some Ordering.lt) = true
      rw [hE2]; rfl
    clear hE1 hE2
    go_enter Tryz.func144, Tryz.ntmps144
    go_wp2
    go_ret2
    exact ⟨_, _, rfl, hX.out _, rfl⟩
  · have hE1' : (FloatKind.f64.format.order (Fl.wordOf neg r) 4831355200913801216 == some Ordering.gt) = false := hE1
    have hE2' : (FloatKind.f64.format.order (Fl.wordOf neg r) 14054727237768577024 == some Ordering.lt) = false := hE2
    clear hE1 hE2
    cases neg
    all_goals
      go_enter Tryz.func144, Tryz.ntmps144
      go_wp2
      go_ret2
      exact ⟨_, _, rfl, L.out, rfl⟩

set_option maxHeartbeats 1000000 in
set_option maxRecDepth 100000 in
theorem exact_div (B : Nat) (d : Nat) (p : Int) (neg : Bool) (w : World) (hG : Glob B w) (hd0 : 0 < d) (hd : d < 4503599627370496) (hp0 : p < 0) (hp1 : -22 ≤ p) :
    Calls Tryz.prog 144 #[.int .u64 d, .int .i64 p, .bool neg] w fun e w' => ∃ x y, e = .returned (.tuple #[x, y]) ∧ Exact d p neg x y ∧ w = w' := by
  have fm := hG.fm
  obtain ⟨tb, to, _, ht, htc⟩ := hG.pw
  have hc1 := htc (-p).toNat (by omega)
  clear htc
  have hts := small_bne hd
  obtain ⟨r, M0, k0, W⟩ := whole_of d hd0 hd
  have hF := W.of
  have hN := neg_run r (by have := W.eq; have := W.M1; have := W.k1; omega)
  obtain ⟨g, hg, hE⟩ := exact_div_law (p := (-p).toNat) neg W (by omega)
  rw [show -(((-p).toNat : Nat) : Int) = p by omega] at hE
  have hM := div_run hg
  have L := hide hE
  clear W hd hd0 hE hg
  cases neg
  all_goals
    go_enter Tryz.func144, Tryz.ntmps144
    go_wp2
    go_ret2
    exact ⟨_, _, rfl, L.out, rfl⟩

set_option maxHeartbeats 1000000 in
set_option maxRecDepth 100000 in
theorem exact_none (B : Nat) (d : Nat) (p : Int) (neg : Bool) (w : World) (hG : Glob B w) (hd0 : 0 < d) (hd : d < 4503599627370496) (hp : p < -22 ∨ 37 < p) :
    Calls Tryz.prog 144 #[.int .u64 d, .int .i64 p, .bool neg] w fun e w' => ∃ x y, e = .returned (.tuple #[x, y]) ∧ Exact d p neg x y ∧ w = w' := by
  have fm := hG.fm
  have hts := small_bne hd
  obtain ⟨r, M0, k0, W⟩ := whole_of d hd0 hd
  have hF := W.of
  have hN := neg_run r (by have := W.eq; have := W.M1; have := W.k1; omega)
  have hX := hide (not_exact d p neg)
  clear W hd hd0
  rcases hp with hp | hp
  all_goals
    cases neg
    all_goals
      go_enter Tryz.func144, Tryz.ntmps144
      go_wp2
      go_ret2
      exact ⟨_, _, rfl, hX.out _, rfl⟩

set_option maxHeartbeats 1000000 in
set_option maxRecDepth 100000 in
theorem exact_two (B : Nat) (d : Nat) (p : Int) (neg : Bool) (w : World) (hG : Glob B w) (hd0 : 0 < d) (hd : d < 4503599627370496) (hp0 : 22 < p) (hp1 : p ≤ 37) :
    Calls Tryz.prog 144 #[.int .u64 d, .int .i64 p, .bool neg] w fun e w' => ∃ x y, e = .returned (.tuple #[x, y]) ∧ Exact d p neg x y ∧ w = w' := by
  have fm := hG.fm
  obtain ⟨tb, to, _, ht, htc⟩ := hG.pw
  have hc1 := htc (p - 22).toNat (by omega)
  have hc2 := htc 22 (by omega)
  clear htc
  have hts := small_bne hd
  obtain ⟨r, M0, k0, W⟩ := whole_of d hd0 hd
  have hF := W.of
  have hN := neg_run r (by have := W.eq; have := W.M1; have := W.k1; omega)
  obtain ⟨g, hg, hE⟩ := exact_two_law (p := (p - 22).toNat) neg W hd0 (by omega)
  have hM := mul_run hg
  have hX := hide (not_exact d p neg)
  clear W hd hd0 hg
  unfold Fl.e15 Fl.e15n at hE
  rcases hE with ⟨rfl, hE⟩ | ⟨rfl, hE1, hE2⟩ | ⟨hE1, hE2, g2, hg2, hE⟩
  · have hE' : (FloatKind.f64.format.order g 4831355200913801216 == some Ordering.gt) = true := by
      show (Ieee.double.order g 4831355200913801216 == some Ordering.gt) = true
      rw [hE]; rfl
    clear hE
    go_enter Tryz.func144, Tryz.ntmps144
    go_wp2
    go_ret2
    exact ⟨_, _, rfl, hX.out _, rfl⟩
  · have hE1' : (FloatKind.f64.format.order g 4831355200913801216 == some Ordering.gt) = false := hE1
    have hE2' : (FloatKind.f64.format.order g 14054727237768577024 == some Ordering.lt) = true := by
      show (Ieee.double.order g 14054727237768577024 == some Ordering.lt) = true
      rw [hE2]; rfl
    clear hE1 hE2
    go_enter Tryz.func144, Tryz.ntmps144
    go_wp2
    go_ret2
    exact ⟨_, _, rfl, hX.out _, rfl⟩
  · have hE1' : (FloatKind.f64.format.order g 4831355200913801216 == some Ordering.gt) = false := hE1
    have hE2' : (FloatKind.f64.format.order g 14054727237768577024 == some Ordering.lt) = false := hE2
    have hM2 := mul_run hg2
    rw [show (22 : Int) + ((p - 22).toNat : Nat) = p by omega] at hE
    have L := hide hE
    clear hE1 hE2 hg2 hE
    cases neg
    all_goals
      go_enter Tryz.func144, Tryz.ntmps144
      go_wp2
      go_ret2
      exact ⟨_, _, rfl, L.out, rfl⟩

theorem exact_any (B : Nat) (d : Nat) (p : Int) (neg : Bool) (w : World) (hG : Glob B w) (hd0 : 0 < d) (hd : d < 18446744073709551616) :
    Calls Tryz.prog 144 #[.int .u64 d, .int .i64 p, .bool neg] w fun e w' => ∃ x y, e = .returned (.tuple #[x, y]) ∧ Exact d p neg x y ∧ w = w' := by
  rcases Nat.lt_or_ge d 4503599627370496 with h | h
  · rcases (show p < -22 ∨ (-22 ≤ p ∧ p < 0) ∨ p = 0 ∨ (0 < p ∧ p ≤ 22) ∨ (22 < p ∧ p ≤ 37) ∨ 37 < p by omega) with hp | hp | hp | hp | hp | hp
    · exact exact_none B d p neg w hG hd0 h (.inl hp)
    · exact exact_div B d p neg w hG hd0 h hp.2 hp.1
    · subst hp; exact exact_zero B d neg w hG hd0 h
    · exact exact_mul B d p neg w hG hd0 h hp.1 hp.2
    · exact exact_two B d p neg w hG hd0 h hp.1 hp.2
    · exact exact_none B d p neg w hG hd0 h (.inr hp)
  · exact exact_large B d p neg w hG h hd
end Go.Proofs.YtgmbjdoifkjdhaaGreatDoor
end
