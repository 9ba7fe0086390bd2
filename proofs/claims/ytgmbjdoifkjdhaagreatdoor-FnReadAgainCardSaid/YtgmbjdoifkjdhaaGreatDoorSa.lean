/- The statement's own functions: line, sameBits, SamePoints. -/
import Derived.Test.YtgmbjdoifkjdhaaGreatDoorKt
import Derived.Test.YtgmbjdoifkjdhaaGreatDoorKu
namespace Go.Proofs.YtgmbjdoifkjdhaaGreatDoor
open Go.RowKit

theorem pts_two (w : World) (x y x2 y2 : Nat) (t : TypeId) : Sup w.heap.size (IsSl 2 PtIt (.slice (some ⟨w.heap.size, 0, none⟩) 2 2) [(x, y), (x2, y2)]) (w.alloc (.cells #[.float .f64 x, .float .f64 y, .float .f64 x2, .float .f64 y2] t)) := by
  refine (sup_new w t #[.float .f64 x, .float .f64 y, .float .f64 x2, .float .f64 y2]).imp fun w' hw => ?_
  refine ⟨_, _, [[.float .f64 x, .float .f64 y], [.float .f64 x2, .float .f64 y2]], rfl, rfl, by simp, ?_, ?_⟩
  · intro j v hj
    rcases j with _ | _ | _ | _ | j
    · simp at hj; subst hj; exact ⟨_, rfl, by rw [cell_of_row w' _ 0 _ _ _ hw]; rfl⟩
    · simp at hj; subst hj; exact ⟨_, rfl, by rw [cell_of_row w' _ 1 _ _ _ hw]; rfl⟩
    · simp at hj; subst hj; exact ⟨_, rfl, by rw [cell_of_row w' _ 2 _ _ _ hw]; rfl⟩
    · simp at hj; subst hj; exact ⟨_, rfl, by rw [cell_of_row w' _ 3 _ _ _ hw]; rfl⟩
    · simp at hj
  · intro i c z hc hz
    rcases i with _ | _ | i
    · simp at hc hz; subst hc; subst hz; rfl
    · simp at hc hz; subst hc; subst hz; rfl
    · simp at hc
set_option maxRecDepth 100000 in
theorem line_any (w : World) : Calls Tryz.prog 5 #[] w fun e w' => (∃ kd lv pv, e = .returned (.agg #[kd, lv, pv]) ∧ Sup w.heap.size (fun w => ShpIs w [kd, lv, pv] (.line [(w1, w2), (w3, w4)])) w') ∧ Below w.heap.size w w' := by
  have hsf := store_float
  go_enter Tryz.func5, Tryz.ntmps5
  go_wp2
  have hB := ((Blk.new w 26 #[.int .i64 2, .slice (some ⟨w.heap.size + 1 + 1, 0, none⟩) 1 1, .slice none 0 0]).alloc (.cells #[.float .f64 4607182418800017408, .float .f64 4611686018427387904, .float .f64 4613937818241073152, .float .f64 4616189618054758400] 38)).alloc (.cells #[.slice (some ⟨w.heap.size + 1, 0, none⟩) 2 2] 39)
  refine bodyPost_ret (results_26 rfl _ _ w.heap.size _ rfl hB rfl) rfl ?_
  refine ⟨⟨_, _, _, rfl, ?_⟩, ((below_alloc w _).alloc (by simp) _).alloc (by simp; omega) _⟩
  have h2 := pts_two (w.alloc (.cells #[.int .i64 2, .slice (some ⟨w.heap.size + 1 + 1, 0, none⟩) 1 1, .slice none 0 0] 26)) w1 w2 w3 w4 38
  have h3 : Sup _ (RowIt [.slice (some ⟨w.heap.size + 1, 0, none⟩) 2 2] [(w1, w2), (w3, w4)]) _ := h2.imp fun w' hw => ⟨_, rfl, by simpa using hw⟩
  have h4 := sl_one 39 h3 (by simp)
  exact (h4.imp fun w' hw => .line (by simpa using hw)).mono (by simp)
theorem bits_any (x : Nat) (w : World) : Calls Tryz.prog 60 #[.float .f64 x, .float .f64 x] w fun e w' => e = .returned (.bool true) ∧ w' = w := by
  have hd := run70
  go_enter Tryz.func60, Tryz.ntmps60
  go_wp2
  go_ret
  exact ⟨rfl, rfl⟩
set_option maxHeartbeats 2000000 in
set_option maxRecDepth 100000 in
theorem spts_any (u v : Value) (ps : List (Nat × Nat)) (w : World) (hu : Stay (IsSl 2 PtIt u ps) w) (hv : Stay (IsSl 2 PtIt v ps) w) (hl : ps.length ≤ 1099511627776) :
    Calls Tryz.prog 32 #[u, v] w fun e w' => e = .returned (.bool true) ∧ ∃ n, w' = w.drewN n := by
  obtain ⟨a1, c1, rfl, hc1⟩ := pts_at hu.get
  obtain ⟨a2, c2, rfl, hc2⟩ := pts_at hv.get
  replace hc1 := hide hc1
  replace hc2 := hide hc2
  clear hu hv
  go_enter Tryz.func32, Tryz.ntmps32
  go_wp2
  go_loopw [5, 13] (fun _ i wr => ∃ k : Nat, k ≤ ps.length ∧ i = .int .i64 k ∧ Hid (∃ n, wr = w.drewN n)) (fun _ i _ => ps.length - (intOf i).toNat)
  case atStart => exact ⟨0, Nat.zero_le _, rfl, hide ⟨0, rfl⟩⟩
  case round =>
    obtain ⟨k, hk, rfl, hb⟩ := hrel
    by_cases hlt : k < ps.length
    · obtain ⟨⟨x, y⟩, hxy⟩ : ∃ p, ps[k]? = some p := ⟨_, List.getElem?_eq_getElem hlt⟩
      obtain ⟨b1, rfl, hx1, hy1⟩ := hc1.out k x y hxy
      obtain ⟨b2, rfl, hx2, hy2⟩ := hc2.out k x y hxy
      have kx : ∀ a v, w.cell? a = some v → wr.cell? a = some v := fun a v h => by obtain ⟨n, hn⟩ := hb.out; rw [hn]; exact h
      replace hx1 := kx _ _ hx1
      replace hx2 := kx _ _ hx2
      replace hy1 := kx _ _ hy1
      replace hy2 := kx _ _ hy2
      clear kx hxy
      go_wp2
      go_quiet ((go_at_call 60; exact Calls.quiet_of_same (bits_any _ _)))
      go_wp2
      exact ⟨⟨k + 1, hlt, rfl, hide (by obtain ⟨n, hn⟩ := hb.out; exact ⟨n + nq, by rw [hn, World.drewN_drewN]⟩)⟩, by simp [intOf]; omega⟩
    · go_wp2
      go_ret
      exact ⟨rfl, hb.out⟩
end Go.Proofs.YtgmbjdoifkjdhaaGreatDoor
