import Derived.Test.YbulkcodaZ8
namespace Go.Proofs.Ybulkcoda
open Go.RowKit

set_option maxRecDepth 100000 in
set_option maxHeartbeats 4000000 in
theorem aend_zero (ia : Option Addr) (c now busy hd : Nat) (he : Bool) (w : World) :
    Calls Yba.prog 3 #[.float .f64 now, .float .f64 busy, .slice ia 0 c, .int .u8 (hd : Nat), .bool he] w fun e w' => e = .returned (.bool true) ∧ Below w.heap.size w w' := by
  have hmf : ∀ (fn : Fn) (first cap : Array Value) (w : World), (Instr.makeFunc fn first cap).run Yba.prog w = .ok (.func fn first cap) w := fun _ _ _ _ => rfl
  go_enter Yba.func3, Yba.ntmps3
  go_wp2
  obtain ⟨l1, l2, l3, l4, l5, l6⟩ := lay4 w (.cells #[.slice none 0 0] 24) (.cells #[.slice none 0 0] 25) (.cells (svC true (.slice none 0 0) 0 .nilFunc .nilFunc busy 4619567317775286272) 29) (.cells #[.pointer (some ⟨w.heap.size + 1 + 1, 0, none⟩)] 26)
  obtain ⟨w1, hw1⟩ : ∃ w1, w1 = (((w.alloc (.cells #[.slice none 0 0] 24)).alloc (.cells #[.slice none 0 0] 25)).alloc (.cells (svC true (.slice none 0 0) 0 .nilFunc .nilFunc busy 4619567317775286272) 29)).alloc (.cells #[.pointer (some ⟨w.heap.size + 1 + 1, 0, none⟩)] 26) := ⟨_, rfl⟩
  change Code.wp _ _ _ _ ((((w.alloc (.cells #[.slice none 0 0] 24)).alloc (.cells #[.slice none 0 0] 25)).alloc (.cells (svC true (.slice none 0 0) 0 .nilFunc .nilFunc busy 4619567317775286272) 29)).alloc (.cells #[.pointer (some ⟨w.heap.size + 1 + 1, 0, none⟩)] 26))
  rw [← hw1] at l1 l2 l3 l4 l5 l6 ⊢
  clear hw1
  generalize hX : w.heap.size + 1 + 1 + 1 = X at *
  generalize hV : w.heap.size + 1 + 1 = V at *
  generalize hA : w.heap.size + 1 = A at *
  have kX : w1.cell? ⟨X, 0, none⟩ = some (.pointer (some ⟨V, 0, none⟩)) := by rw [cell_of_heap l4]; rfl
  have lX := lt_of_block l4
  have lV := lt_of_block l3
  have nVX : ¬ V = X := by omega
  obtain ⟨v0, v1, v2, v3, v4, v5, v6⟩ := svCells l3
  obtain ⟨f0, f1, f2, f3, f4, f5, f6⟩ := svFree l3
  have hz := zSim_run
  have hne := zSim_ne
  clear l5
  cases he
  case' false =>
    refine wp_loop_rounds 1 ?_
    rw [rounds_succ]
    go_wp2_with fail
    obtain ⟨w3, hw3⟩ : ∃ w3, w3 = (w1.setCell ⟨V, 3, none⟩ (.func (Fn.func 9) #[] #[.pointer (some ⟨w.heap.size, 0, none⟩), .pointer (some ⟨A, 0, none⟩), .pointer (some ⟨X, 0, none⟩)])).alloc (.cells (zSim.setIfInBounds 0 (.float .f64 now)) 55) := ⟨_, rfl⟩
    rw [← hw3]
    have k3 : Kept [V] w1 w3 := by rw [hw3]; exact ((Kept.refl [V] w1).setCell (p := ⟨V, 3, none⟩) (Or.inl (by simp)) _).alloc _
    have hV3 : ∃ e, EndIs w.heap.size false e ∧ w3.heap[V]? = some (.cells (svC true (.slice none 0 0) ((0 : Nat) : Int) (.func (Fn.func 9) #[] #[.pointer (some ⟨w.heap.size, 0, none⟩), .pointer (some ⟨A, 0, none⟩), .pointer (some ⟨X, 0, none⟩)]) e busy 4619567317775286272) 29) := ⟨.nilFunc, Or.inl ⟨rfl, rfl⟩, by rw [hw3]; exact (Below.heap_alloc _ _ _ (by simp [World.setCell]; omega)).trans (heap_setCell_same l3 _)⟩
    have hS3 : Sim w3 w1.heap.size now (.slice none 0 0) (.int .u64 0) .nilIface := Sim.new (by
      have := (MapKept.heap_alloc (w1.setCell ⟨V, 3, none⟩ (.func (Fn.func 9) #[] #[.pointer (some ⟨w.heap.size, 0, none⟩), .pointer (some ⟨A, 0, none⟩), .pointer (some ⟨X, 0, none⟩)])) (.cells (zSim.setIfInBounds 0 (.float .f64 now)) 55)).1
      rw [show (w1.setCell ⟨V, 3, none⟩ (.func (Fn.func 9) #[] #[.pointer (some ⟨w.heap.size, 0, none⟩), .pointer (some ⟨A, 0, none⟩), .pointer (some ⟨X, 0, none⟩)])).heap.size = w1.heap.size from by simp [World.setCell]] at this
      rw [hw3]; exact this)
    clear hw3
  case' true =>
    refine wp_loop_rounds 1 ?_
    rw [rounds_succ]
    go_wp2_with fail
    obtain ⟨w3, hw3⟩ : ∃ w3, w3 = ((w1.setCell ⟨V, 3, none⟩ (.func (Fn.func 9) #[] #[.pointer (some ⟨w.heap.size, 0, none⟩), .pointer (some ⟨A, 0, none⟩), .pointer (some ⟨X, 0, none⟩)])).setCell ⟨V, 4, none⟩ (.func (Fn.func 10) #[] #[.pointer (some ⟨w.heap.size, 0, none⟩)])).alloc (.cells (zSim.setIfInBounds 0 (.float .f64 now)) 55) := ⟨_, rfl⟩
    rw [← hw3]
    have k3 : Kept [V] w1 w3 := by rw [hw3]; exact (((Kept.refl [V] w1).setCell (p := ⟨V, 3, none⟩) (Or.inl (by simp)) _).setCell (p := ⟨V, 4, none⟩) (Or.inl (by simp)) _).alloc _
    have hV3 : ∃ e, EndIs w.heap.size true e ∧ w3.heap[V]? = some (.cells (svC true (.slice none 0 0) ((0 : Nat) : Int) (.func (Fn.func 9) #[] #[.pointer (some ⟨w.heap.size, 0, none⟩), .pointer (some ⟨A, 0, none⟩), .pointer (some ⟨X, 0, none⟩)]) e busy 4619567317775286272) 29) := ⟨(.func (Fn.func 10) #[] #[.pointer (some ⟨w.heap.size, 0, none⟩)]), Or.inr ⟨rfl, rfl⟩, by rw [hw3]; exact (Below.heap_alloc _ _ _ (by simp [World.setCell]; omega)).trans (heap_setCell_same (heap_setCell_same l3 _) _)⟩
    have hS3 : Sim w3 w1.heap.size now (.slice none 0 0) (.int .u64 0) .nilIface := Sim.new (by
      have := (MapKept.heap_alloc ((w1.setCell ⟨V, 3, none⟩ (.func (Fn.func 9) #[] #[.pointer (some ⟨w.heap.size, 0, none⟩), .pointer (some ⟨A, 0, none⟩), .pointer (some ⟨X, 0, none⟩)])).setCell ⟨V, 4, none⟩ (.func (Fn.func 10) #[] #[.pointer (some ⟨w.heap.size, 0, none⟩)])) (.cells (zSim.setIfInBounds 0 (.float .f64 now)) 55)).1
      rw [show ((w1.setCell ⟨V, 3, none⟩ (.func (Fn.func 9) #[] #[.pointer (some ⟨w.heap.size, 0, none⟩), .pointer (some ⟨A, 0, none⟩), .pointer (some ⟨X, 0, none⟩)])).setCell ⟨V, 4, none⟩ (.func (Fn.func 10) #[] #[.pointer (some ⟨w.heap.size, 0, none⟩)])).heap.size = w1.heap.size from by simp [World.setCell]] at this
      rw [hw3]; exact this)
    clear hw3
  all_goals
    obtain ⟨e, hEnd, hV3⟩ := hV3
    have t1 := (k3.block _ (lt_of_block l1) (by simp; omega)).trans l1
    have t2 := (k3.block _ (lt_of_block l2) (by simp; omega)).trans l2
    have t4 := (k3.block _ lX (by simp; omega)).trans l4
    have hb3 : Below w.heap.size w w3 := l6.trans (k3.below l6.size (by simp; omega))
    clear v0 v1 v2 v3 v4 v5 v6 f0 f1 f2 f3 f4 f5 f6 kX hz hne hmf l1 l2 l3 l4 l6 k3
    refine (ends_idle w.heap.size A X V 0 0 none _ e busy 4619567317775286272 w3 t1 t2 t4 hV3).mono ?_
    rintro r w4 ⟨rfl, hV4, ⟨lv, av, o1, ⟨g, cp, cs, rfl, o2, o3, o4, _⟩, o5, ⟨g', cp', cs', rfl, o6, o7, o8, _⟩⟩, hk4⟩
    have hz4 := hk4.size
    have hX4 := (hk4.block X (lt_of_block t4) (by simp; omega)).trans t4
    have hS4 := hS3.kept hk4 (by simp; omega)
    have hb4 : Below w.heap.size w w4 := hb3.trans (hk4.below hb3.size (by simp; omega))
    replace hV4 : w4.heap[V]? = some (.cells (svC false (.slice none 0 0) 0 .nilFunc e busy 4619567317775286272) 29) := hV4
    obtain ⟨v0, v1, v2, v3, v4, v5, v6⟩ := svCells hV4
    obtain ⟨s0, s1, s2, s3, _, _, _, _⟩ := hS4.cells
    have kX : w4.cell? ⟨X, 0, none⟩ = some (.pointer (some ⟨V, 0, none⟩)) := by rw [cell_of_heap hX4]; rfl
    have kL : w4.cell? ⟨w.heap.size, 0, none⟩ = some (.slice (some ⟨g, 0, none⟩) 1 cp) := by rw [cell_of_heap o1]; rfl
    have kA : w4.cell? ⟨A, 0, none⟩ = some (.slice (some ⟨g', 0, none⟩) 1 cp') := by rw [cell_of_heap o5]; rfl
    have kg : w4.cell? ⟨g, 0, none⟩ = some (.int .i64 (-1)) := by rw [cell_of_heap o3]; exact o4
    have kg' : w4.cell? ⟨g', 0, none⟩ = some (.bool false) := by rw [cell_of_heap o7]; exact o8
    have h7 : FloatKind.f64.format.order 4619567317775286272 4619567317775286272 = some .eq := by kernel_rfl
    have en := eq_nil_nil
    have ef := eq_func_nil
    have nn := ne_nil_nil
    have nf := ne_func_nil
    rcases hEnd with ⟨hx, rfl⟩ | ⟨hx, rfl⟩
    all_goals cases hx
    clear hV4 hX4 hS4 hk4 o1 o2 o3 o4 o5 o6 o7 o8 hz4 hb3 hS3 t1 t2 t4 hV3
    go_wp2_with (go_at_call 12; refine (same_any busy busy _ (Same.refl _)).mono ?_; rintro e w5 ⟨rfl, rfl⟩)
    go_ret
    exact ⟨rfl, hb4⟩
end Go.Proofs.Ybulkcoda
