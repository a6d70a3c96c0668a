import Derived.Test.YbulkcodaZ8
namespace Go.Proofs.Ybulkcoda
open Go.RowKit

set_option maxRecDepth 100000 in
set_option maxHeartbeats 4000000 in
theorem aend_idle_true (I off n c : Nat) (E : Nat → Nat) (now busy hd : Nat) (w : World) (hn0 : 0 < n) (hn : n ≤ 1024) (hh : hd < 256) (hi : hd % (n + 1) = n) (hE : ∀ i, i < n → w.cell? ⟨I, off + i, none⟩ = some (.float .f64 (E i))) :
    Calls Yba.prog 3 #[.float .f64 now, .float .f64 busy, .slice (some ⟨I, off, none⟩) n c, .int .u8 (hd : Nat), .bool true] w fun e w' => e = .returned (.bool true) ∧ Below w.heap.size w w' := by
  have hmk := make27 n hn
  have hd1 : decide ((1024 : Int) < (n : Int)) = false := by simp; omega
  go_enter Yba.func3, Yba.ntmps3
  go_wp2
  obtain ⟨h, hmod, hhn, hhe⟩ : ∃ h : Nat, (hd : Int) % ((n : Int) + 1) = (h : Int) ∧ h ≤ n ∧ h = hd % (n + 1) := ⟨hd % (n + 1), by simp, by have := Nat.mod_lt hd (show 0 < n + 1 by omega); omega, rfl⟩
  have hin := hide (show h = n by omega)
  clear hhe hi
  rw [hmod]
  obtain ⟨l1, l2, l3, l4, l5, l6⟩ := lay4 w (.cells #[.slice none 0 0] 24) (.cells #[.slice none 0 0] 25) (.cells (svC true (.slice none 0 0) (h : Int) .nilFunc .nilFunc busy 4619567317775286272) 29) (.cells #[.pointer (some ⟨w.heap.size + 1 + 1, 0, none⟩)] 26)
  obtain ⟨w1, hw1⟩ : ∃ w1, w1 = (((w.alloc (.cells #[.slice none 0 0] 24)).alloc (.cells #[.slice none 0 0] 25)).alloc (.cells (svC true (.slice none 0 0) (h : Int) .nilFunc .nilFunc busy 4619567317775286272) 29)).alloc (.cells #[.pointer (some ⟨w.heap.size + 1 + 1, 0, none⟩)] 26) := ⟨_, rfl⟩
  change Code.wp _ _ _ _ ((((w.alloc (.cells #[.slice none 0 0] 24)).alloc (.cells #[.slice none 0 0] 25)).alloc (.cells (svC true (.slice none 0 0) (h : Int) .nilFunc .nilFunc busy 4619567317775286272) 29)).alloc (.cells #[.pointer (some ⟨w.heap.size + 1 + 1, 0, none⟩)] 26))
  rw [← hw1] at l1 l2 l3 l4 l5 l6 ⊢
  clear hw1
  obtain ⟨v0, v1, v2, v3, v4, v5, v6⟩ := svCells l3
  obtain ⟨f0, f1, f2, f3, f4, f5, f6⟩ := svFree l3
  have x0 : w1.cell? ⟨w.heap.size + 1 + 1 + 1, 0, none⟩ = some (.pointer (some ⟨w.heap.size + 1 + 1, 0, none⟩)) := by rw [cell_of_heap l4]; rfl
  have lV := lt_of_block l3
  have lX := lt_of_block l4
  go_region
  obtain ⟨w2, hw2⟩ : ∃ w2, w2 = ((w1.setCell ⟨w.heap.size + 1 + 1, 1, none⟩ (.slice (some ⟨w.heap.size + 1 + 1 + 1 + 1, 0, none⟩) n n)).alloc (.cells (mkJ n) 31)).drew := ⟨_, rfl⟩
  rw [← hw2]
  have k2 : Kept [w.heap.size + 1 + 1] w1 w2 := by rw [hw2]; exact (((Kept.refl [w.heap.size + 1 + 1] w1).setCell (p := ⟨w.heap.size + 1 + 1, 1, none⟩) (Or.inl (by simp)) _).alloc _).drew
  have m3 : w2.heap[w.heap.size + 1 + 1]? = some (.cells (svC true (.slice (some ⟨w.heap.size + 1 + 1 + 1 + 1, 0, none⟩) n n) (h : Int) .nilFunc .nilFunc busy 4619567317775286272) 29) := by
    rw [hw2]; exact (Below.heap_alloc _ _ _ (by simp [World.setCell]; omega)).trans (heap_setCell_same l3 _)
  have m5 : w2.heap[w.heap.size + 1 + 1 + 1 + 1]? = some (.cells (mkJ n) 31) := by
    have := (MapKept.heap_alloc (w1.setCell ⟨w.heap.size + 1 + 1, 1, none⟩ (.slice (some ⟨w.heap.size + 1 + 1 + 1 + 1, 0, none⟩) n n)) (.cells (mkJ n) 31)).1
    rw [show (w1.setCell ⟨w.heap.size + 1 + 1, 1, none⟩ (.slice (some ⟨w.heap.size + 1 + 1 + 1 + 1, 0, none⟩) n n)).heap.size = w.heap.size + 1 + 1 + 1 + 1 from by simp [World.setCell]; exact l5] at this
    rw [hw2]; exact this
  have m1 := (k2.block _ (lt_of_block l1) (by simp; omega)).trans l1
  have m2 := (k2.block _ (lt_of_block l2) (by simp)).trans l2
  have m4 := (k2.block _ (lt_of_block l4) (by simp)).trans l4
  have hB : Below w.heap.size w w2 := l6.trans (k2.below l6.size (by simp; omega))
  clear hw2 k2 l1 l2 l3 l4 l5 l6 v0 v1 v2 v3 v4 v5 v6 f0 f1 f2 f3 f4 f5 f6 x0 lV lX hmk
  generalize hQ : w.heap.size + 1 + 1 + 1 + 1 = Q at *
  generalize hX : w.heap.size + 1 + 1 + 1 = X at *
  generalize hV : w.heap.size + 1 + 1 = V at *
  generalize hA : w.heap.size + 1 = A at *
  have J0 : Jobs w2 w.heap.size Q n 0 E := Jobs.zero m5
  have hmf : ∀ (fn : Fn) (first cap : Array Value) (w : World), (Instr.makeFunc fn first cap).run Yba.prog w = .ok (.func fn first cap) w := fun _ _ _ _ => rfl
  have hsf := fun (w : World) (a : Addr) (b : Nat) (m : Mode) => run_store Yba.prog w a (.float .f64 b) m rfl
  clear m5
  go_wp2
  go_loopw [16, 17] (fun i _ wr => ∃ p : Nat, p ≤ n ∧ i = .int .i64 p ∧ Jobs wr w.heap.size Q n p E ∧ wr.heap[w.heap.size]? = some (.cells #[.slice none 0 0] 24) ∧ wr.heap[A]? = some (.cells #[.slice none 0 0] 25) ∧ wr.heap[X]? = some (.cells #[.pointer (some ⟨V, 0, none⟩)] 26) ∧ wr.heap[V]? = some (.cells (svC true (.slice (some ⟨Q, 0, none⟩) n n) (h : Int) .nilFunc .nilFunc busy 4619567317775286272) 29) ∧ Below w.heap.size w wr) (fun i _ _ => n - (intOf i).toNat)
  case atStart => exact ⟨0, Nat.zero_le _, rfl, J0, m1, m2, m4, m3, hB⟩
  case round =>
    obtain ⟨p, hp, rfl, hJ, r1, r2, r4, r3, hbw⟩ := hrel
    clear J0 m1 m2 m3 m4 hB
    by_cases hlt : p < n
    · have lI : I < w.heap.size := World.block_lt_of_cell? _ _ (hE p hlt)
      have b1 : (0 : Int) ≤ (p : Int) := by omega
      have b2 : (p : Int) < (n : Int) := by omega
      have hJ1 := hJ.step hlt
      have lQ := hJ.lt
      have kk : Kept [] wr (wr.alloc (.cells #[.int .i64 (p : Nat)] 3)) := (Kept.refl [] wr).alloc _
      obtain ⟨wk, hwk⟩ : ∃ wk, wk = wr.alloc (.cells #[.int .i64 (p : Nat)] 3) := ⟨_, rfl⟩
      have F : ∀ w', Kept [Q] wr w' → w'.cell? ⟨X, 0, none⟩ = some (.pointer (some ⟨V, 0, none⟩)) ∧ w'.cell? ⟨V, 1, none⟩ = some (.slice (some ⟨Q, 0, none⟩) n n) ∧ w'.cell? ⟨I, off + p, none⟩ = some (.float .f64 (E p)) ∧ Kept [Q] wr w' := fun w' k =>
        ⟨k.cellSome (by rw [cell_of_heap r4]; rfl) (by simp; omega), k.cellSome (by rw [cell_of_heap r3]; rfl) (by simp; omega), k.cellSome ((hbw.cell lI).trans (hE p hlt)) (by simp; omega), k⟩
      rw [← hwk] at hJ1 kk
      have F : ∀ w', Kept [Q] wk w' → w'.cell? ⟨X, 0, none⟩ = some (.pointer (some ⟨V, 0, none⟩)) ∧ w'.cell? ⟨V, 1, none⟩ = some (.slice (some ⟨Q, 0, none⟩) n n) ∧ w'.cell? ⟨I, off + p, none⟩ = some (.float .f64 (E p)) ∧ Kept [Q] wk w' := fun w' k => by
        obtain ⟨a, b, c, _⟩ := F w' ((kk.weaken (by simp)).trans k)
        exact ⟨a, b, c, k⟩
      obtain ⟨y0, e0, z0⟩ := hJ.spot (j := p * 2) (by omega)
      obtain ⟨y1, e1, z1⟩ := hJ.spot (j := p * 2 + 1) (by omega)
      have e0' := kk.cellSome e0 (by simp)
      have e1' := kk.cellSome e1 (by simp)
      have z0' := (kk.frozen (p := ⟨Q, p * 2, none⟩) lQ (by simp)).trans z0
      have z1' := (kk.frozen (p := ⟨Q, p * 2 + 1, none⟩) lQ (by simp)).trans z1
      have kr : Kept [Q] wr (((wk.setCell ⟨Q, p * 2, none⟩ (.float .f64 (E p))).setCell ⟨Q, p * 2 + 1, none⟩ (.func (Fn.func 8) #[] #[.pointer (some ⟨w.heap.size, 0, none⟩), .pointer (some ⟨wr.heap.size, 0, none⟩)])).drew) :=
        (((kk.weaken (by simp)).setCell (p := ⟨Q, p * 2, none⟩) (Or.inl (by simp)) _).setCell (p := ⟨Q, p * 2 + 1, none⟩) (Or.inl (by simp)) _).drew
      have q1 := (kr.block _ (lt_of_block r1) (by simp; omega)).trans r1
      have q2 := (kr.block _ (lt_of_block r2) (by simp; omega)).trans r2
      have q3 := (kr.block _ (lt_of_block r3) (by simp; omega)).trans r3
      have q4 := (kr.block _ (lt_of_block r4) (by simp; omega)).trans r4
      have hbr : Below w.heap.size w (((wk.setCell ⟨Q, p * 2, none⟩ (.float .f64 (E p))).setCell ⟨Q, p * 2 + 1, none⟩ (.func (Fn.func 8) #[] #[.pointer (some ⟨w.heap.size, 0, none⟩), .pointer (some ⟨wr.heap.size, 0, none⟩)])).drew) := hbw.trans (kr.below hbw.size (by simp; omega))
      clear hE hJ r1 r2 r3 r4 e0 e1 z0 z1 kr hbw
      go_wp2
      rw [← hwk]
      clear hwk
      go_region_held3 (fun w' => w'.cell? ⟨X, 0, none⟩ = some (.pointer (some ⟨V, 0, none⟩)) ∧ w'.cell? ⟨V, 1, none⟩ = some (.slice (some ⟨Q, 0, none⟩) n n) ∧ w'.cell? ⟨I, off + p, none⟩ = some (.float .f64 (E p)) ∧ Kept [Q] wk w')
        (first | exact F _ (Kept.refl _ _).drew | exact F _ (((Kept.refl _ _).setCell (Or.inl (by simp)) _).setCell (Or.inl (by simp)) _).drew)
        (fail)
      go_wp2
      go_roundw
      case rel => exact ⟨p + 1, by omega, by go_num, hJ1, q1, q2, q4, q3, hbr⟩
      case measure => simp [intOf]; omega
    · obtain rfl : n = p := by omega
      have kX : wr.cell? ⟨X, 0, none⟩ = some (.pointer (some ⟨V, 0, none⟩)) := by rw [cell_of_heap r4]; rfl
      have lX := lt_of_block r4
      have lV := lt_of_block r3
      have nVX : ¬ V = X := by omega
      obtain ⟨v0, v1, v2, v3, v4, v5, v6⟩ := svCells r3
      obtain ⟨f0, f1, f2, f3, f4, f5, f6⟩ := svFree r3
      have hz := zSim_run
      have hne := zSim_ne
      go_wp2_with fail
      obtain ⟨w3, hw3⟩ : ∃ w3, w3 = ((wr.setCell ⟨V, 3, none⟩ (.func (Fn.func 9) #[] #[.pointer (some ⟨w.heap.size, 0, none⟩), .pointer (some ⟨A, 0, none⟩), .pointer (some ⟨X, 0, none⟩)])).setCell ⟨V, 4, none⟩ (.func (Fn.func 10) #[] #[.pointer (some ⟨w.heap.size, 0, none⟩)])).alloc (.cells (zSim.setIfInBounds 0 (.float .f64 now)) 55) := ⟨_, rfl⟩
      rw [← hw3]
      have k3 : Kept [V] wr w3 := by rw [hw3]; exact (((Kept.refl [V] wr).setCell (p := ⟨V, 3, none⟩) (Or.inl (by simp)) _).setCell (p := ⟨V, 4, none⟩) (Or.inl (by simp)) _).alloc _
      have hV3 : ∃ e, EndIs w.heap.size true e ∧ w3.heap[V]? = some (.cells (svC true (.slice (some ⟨Q, 0, none⟩) n n) (h : Int) (.func (Fn.func 9) #[] #[.pointer (some ⟨w.heap.size, 0, none⟩), .pointer (some ⟨A, 0, none⟩), .pointer (some ⟨X, 0, none⟩)]) e busy 4619567317775286272) 29) := ⟨(.func (Fn.func 10) #[] #[.pointer (some ⟨w.heap.size, 0, none⟩)]), Or.inr ⟨rfl, rfl⟩, by rw [hw3]; exact (Below.heap_alloc _ _ _ (by simp [World.setCell]; omega)).trans (heap_setCell_same (heap_setCell_same r3 _) _)⟩
      have hS3 : Sim w3 wr.heap.size now (.slice none 0 0) (.int .u64 0) .nilIface := Sim.new (by
        have := (MapKept.heap_alloc ((wr.setCell ⟨V, 3, none⟩ (.func (Fn.func 9) #[] #[.pointer (some ⟨w.heap.size, 0, none⟩), .pointer (some ⟨A, 0, none⟩), .pointer (some ⟨X, 0, none⟩)])).setCell ⟨V, 4, none⟩ (.func (Fn.func 10) #[] #[.pointer (some ⟨w.heap.size, 0, none⟩)])) (.cells (zSim.setIfInBounds 0 (.float .f64 now)) 55)).1
        rw [show ((wr.setCell ⟨V, 3, none⟩ (.func (Fn.func 9) #[] #[.pointer (some ⟨w.heap.size, 0, none⟩), .pointer (some ⟨A, 0, none⟩), .pointer (some ⟨X, 0, none⟩)])).setCell ⟨V, 4, none⟩ (.func (Fn.func 10) #[] #[.pointer (some ⟨w.heap.size, 0, none⟩)])).heap.size = wr.heap.size from by simp [World.setCell]] at this
        rw [hw3]; exact this)
      clear hw3
      obtain ⟨e, hEnd, hV3⟩ := hV3
      have t1 := (k3.block _ (lt_of_block r1) (by simp; omega)).trans r1
      have t2 := (k3.block _ (lt_of_block r2) (by simp; omega)).trans r2
      have t4 := (k3.block _ lX (by simp; omega)).trans r4
      have lZ := hS3.cells.2.2.2.2.2.2.2
      have hJ3 : Jobs w3 w.heap.size Q n n E := hJ.kept k3 (fun b cur t fr hb hh => by
        obtain rfl : b = V := by simpa using hb
        rw [r3] at hh
        have : (29 : TypeId) = t := by injection hh with hh; injection hh
        subst this
        exact ⟨by decide, by decide⟩)
      have hb3 : Below w.heap.size w w3 := hbw.trans (k3.below hbw.size (by simp; omega))
      clear v0 v1 v2 v3 v4 v5 v6 f0 f1 f2 f3 f4 f5 f6 kX hz hne hmf hJ r1 r2 r3 r4 hbw k3
      obtain rfl : h = n := unhide hin
      refine (ends_idle w.heap.size A X V h h (some ⟨Q, 0, none⟩) _ e busy 4619567317775286272 w3 t1 t2 t4 hV3).mono ?_
      rintro r w4 ⟨rfl, hV4, ⟨lv, av, o1, ⟨g, cp, cs, rfl, o2, o3, o4, _⟩, o5, ⟨g', cp', cs', rfl, o6, o7, o8, _⟩⟩, hk4⟩
      have hz4 := hk4.size
      have hX4 := (hk4.block X (lt_of_block t4) (by simp; omega)).trans t4
      have hS4 := hS3.kept hk4 (by simp; omega)
      have hb4 : Below w.heap.size w w4 := hb3.trans (hk4.below hb3.size (by simp; omega))
      obtain ⟨v0, v1, v2, v3, v4, v5, v6⟩ := svCells hV4
      obtain ⟨s0, s1, s2, s3, _, _, _, _⟩ := hS4.cells
      have kX : w4.cell? ⟨X, 0, none⟩ = some (.pointer (some ⟨V, 0, none⟩)) := by rw [cell_of_heap hX4]; rfl
      have kL : w4.cell? ⟨w.heap.size, 0, none⟩ = some (.slice (some ⟨g, 0, none⟩) 1 cp) := by rw [cell_of_heap o1]; rfl
      have kA : w4.cell? ⟨A, 0, none⟩ = some (.slice (some ⟨g', 0, none⟩) 1 cp') := by rw [cell_of_heap o5]; rfl
      have kg : w4.cell? ⟨g, 0, none⟩ = some (.int .i64 (-1)) := by rw [cell_of_heap o3]; exact o4
      have kg' : w4.cell? ⟨g', 0, none⟩ = some (.bool false) := by rw [cell_of_heap o7]; exact o8
      have h7 : FloatKind.f64.format.order 4619567317775286272 4619567317775286272 = some .eq := by kernel_rfl
      have en := eq_nil_nil
      have ef := eq_func_nil
      have nn := ne_nil_nil
      have nf := ne_func_nil
      rcases hEnd with ⟨hx, rfl⟩ | ⟨hx, rfl⟩
      all_goals cases hx
      clear hJ3 hV4 hX4 hS4 hk4 o1 o2 o3 o4 o5 o6 o7 o8 hz4 hb3 hS3 t1 t2 t4 hV3 lZ
      go_wp2_with (go_at_call 12; refine (same_any busy busy _ (Same.refl _)).mono ?_; rintro e w5 ⟨rfl, rfl⟩)
      go_ret
      exact ⟨rfl, hb4⟩
end Go.Proofs.Ybulkcoda
