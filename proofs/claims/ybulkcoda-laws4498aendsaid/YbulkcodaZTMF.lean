import Derived.Test.YbulkcodaZ8
namespace Go.Proofs.Ybulkcoda
open Go.RowKit

set_option maxRecDepth 100000 in
set_option maxHeartbeats 4000000 in
theorem aend_true_more_false (I off n c : Nat) (E : Nat → Nat) (now busy hd : Nat) (w : World) (hn0 : 0 < n) (hn : n ≤ 1024) (hh : hd < 256) (hi : hd % (n + 1) < n) (hla : hd % (n + 1) + 1 ≠ n) (hbf : bef (floatBits .add .f64 now (E (hd % (n + 1)))) = false) (hE : ∀ i, i < n → w.cell? ⟨I, off + i, none⟩ = some (.float .f64 (E i))) :
    Calls Yba.prog 3 #[.float .f64 now, .float .f64 busy, .slice (some ⟨I, off, none⟩) n c, .int .u8 (hd : Nat), .bool true] w fun e w' => e = .returned (.bool true) ∧ Below w.heap.size w w' := by
  have hmk := make27 n hn
  have hd1 : decide ((1024 : Int) < (n : Int)) = false := by simp; omega
  go_enter Yba.func3, Yba.ntmps3
  go_wp2
  obtain ⟨h, hmod, hhn, hhe⟩ : ∃ h : Nat, (hd : Int) % ((n : Int) + 1) = (h : Int) ∧ h ≤ n ∧ h = hd % (n + 1) := ⟨hd % (n + 1), by simp, by have := Nat.mod_lt hd (show 0 < n + 1 by omega); omega, rfl⟩
  rw [← hhe] at hi hla hbf
  have hin : h < n := hi
  clear hhe hi
  replace hla := hide hla
  replace hbf := hide hbf
  rw [hmod]
  obtain ⟨l1, l2, l3, l4, l5, l6⟩ := lay4 w (.cells #[.slice none 0 0] 24) (.cells #[.slice none 0 0] 25) (.cells (svC true (.slice none 0 0) (h : Int) .nilFunc .nilFunc busy 4619567317775286272) 29) (.cells #[.pointer (some ⟨w.heap.size + 1 + 1, 0, none⟩)] 26)
  obtain ⟨w1, hw1⟩ : ∃ w1, w1 = (((w.alloc (.cells #[.slice none 0 0] 24)).alloc (.cells #[.slice none 0 0] 25)).alloc (.cells (svC true (.slice none 0 0) (h : Int) .nilFunc .nilFunc busy 4619567317775286272) 29)).alloc (.cells #[.pointer (some ⟨w.heap.size + 1 + 1, 0, none⟩)] 26) := ⟨_, rfl⟩
  change Code.wp _ _ _ _ ((((w.alloc (.cells #[.slice none 0 0] 24)).alloc (.cells #[.slice none 0 0] 25)).alloc (.cells (svC true (.slice none 0 0) (h : Int) .nilFunc .nilFunc busy 4619567317775286272) 29)).alloc (.cells #[.pointer (some ⟨w.heap.size + 1 + 1, 0, none⟩)] 26))
  rw [← hw1] at l1 l2 l3 l4 l5 l6 ⊢
  clear hw1
  obtain ⟨v0, v1, v2, v3, v4, v5, v6⟩ := svCells l3
  obtain ⟨f0, f1, f2, f3, f4, f5, f6⟩ := svFree l3
  have x0 : w1.cell? ⟨w.heap.size + 1 + 1 + 1, 0, none⟩ = some (.pointer (some ⟨w.heap.size + 1 + 1, 0, none⟩)) := by rw [cell_of_heap l4]; rfl
  have lV := lt_of_block l3
  have lX := lt_of_block l4
  go_region
  obtain ⟨w2, hw2⟩ : ∃ w2, w2 = ((w1.setCell ⟨w.heap.size + 1 + 1, 1, none⟩ (.slice (some ⟨w.heap.size + 1 + 1 + 1 + 1, 0, none⟩) n n)).alloc (.cells (mkJ n) 31)).drew := ⟨_, rfl⟩
  rw [← hw2]
  have k2 : Kept [w.heap.size + 1 + 1] w1 w2 := by rw [hw2]; exact (((Kept.refl [w.heap.size + 1 + 1] w1).setCell (p := ⟨w.heap.size + 1 + 1, 1, none⟩) (Or.inl (by simp)) _).alloc _).drew
  have m3 : w2.heap[w.heap.size + 1 + 1]? = some (.cells (svC true (.slice (some ⟨w.heap.size + 1 + 1 + 1 + 1, 0, none⟩) n n) (h : Int) .nilFunc .nilFunc busy 4619567317775286272) 29) := by
    rw [hw2]; exact (Below.heap_alloc _ _ _ (by simp [World.setCell]; omega)).trans (heap_setCell_same l3 _)
  have m5 : w2.heap[w.heap.size + 1 + 1 + 1 + 1]? = some (.cells (mkJ n) 31) := by
    have := (MapKept.heap_alloc (w1.setCell ⟨w.heap.size + 1 + 1, 1, none⟩ (.slice (some ⟨w.heap.size + 1 + 1 + 1 + 1, 0, none⟩) n n)) (.cells (mkJ n) 31)).1
    rw [show (w1.setCell ⟨w.heap.size + 1 + 1, 1, none⟩ (.slice (some ⟨w.heap.size + 1 + 1 + 1 + 1, 0, none⟩) n n)).heap.size = w.heap.size + 1 + 1 + 1 + 1 from by simp [World.setCell]; exact l5] at this
    rw [hw2]; exact this
  have m1 := (k2.block _ (lt_of_block l1) (by simp; omega)).trans l1
  have m2 := (k2.block _ (lt_of_block l2) (by simp)).trans l2
  have m4 := (k2.block _ (lt_of_block l4) (by simp)).trans l4
  have hB : Below w.heap.size w w2 := l6.trans (k2.below l6.size (by simp; omega))
  clear hw2 k2 l1 l2 l3 l4 l5 l6 v0 v1 v2 v3 v4 v5 v6 f0 f1 f2 f3 f4 f5 f6 x0 lV lX hmk
  generalize hQ : w.heap.size + 1 + 1 + 1 + 1 = Q at *
  generalize hX : w.heap.size + 1 + 1 + 1 = X at *
  generalize hV : w.heap.size + 1 + 1 = V at *
  generalize hA : w.heap.size + 1 = A at *
  have J0 : Jobs w2 w.heap.size Q n 0 E := Jobs.zero m5
  have hmf : ∀ (fn : Fn) (first cap : Array Value) (w : World), (Instr.makeFunc fn first cap).run Yba.prog w = .ok (.func fn first cap) w := fun _ _ _ _ => rfl
  have hsf := fun (w : World) (a : Addr) (b : Nat) (m : Mode) => run_store Yba.prog w a (.float .f64 b) m rfl
  clear m5
  go_wp2
  go_loopw [16, 17] (fun i _ wr => ∃ p : Nat, p ≤ n ∧ i = .int .i64 p ∧ Jobs wr w.heap.size Q n p E ∧ wr.heap[w.heap.size]? = some (.cells #[.slice none 0 0] 24) ∧ wr.heap[A]? = some (.cells #[.slice none 0 0] 25) ∧ wr.heap[X]? = some (.cells #[.pointer (some ⟨V, 0, none⟩)] 26) ∧ wr.heap[V]? = some (.cells (svC true (.slice (some ⟨Q, 0, none⟩) n n) (h : Int) .nilFunc .nilFunc busy 4619567317775286272) 29) ∧ Below w.heap.size w wr) (fun i _ _ => n - (intOf i).toNat)
  case atStart => exact ⟨0, Nat.zero_le _, rfl, J0, m1, m2, m4, m3, hB⟩
  case round =>
    obtain ⟨p, hp, rfl, hJ, r1, r2, r4, r3, hbw⟩ := hrel
    clear J0 m1 m2 m3 m4 hB
    by_cases hlt : p < n
    · have lI : I < w.heap.size := World.block_lt_of_cell? _ _ (hE p hlt)
      have b1 : (0 : Int) ≤ (p : Int) := by omega
      have b2 : (p : Int) < (n : Int) := by omega
      have hJ1 := hJ.step hlt
      have lQ := hJ.lt
      have kk : Kept [] wr (wr.alloc (.cells #[.int .i64 (p : Nat)] 3)) := (Kept.refl [] wr).alloc _
      obtain ⟨wk, hwk⟩ : ∃ wk, wk = wr.alloc (.cells #[.int .i64 (p : Nat)] 3) := ⟨_, rfl⟩
      have F : ∀ w', Kept [Q] wr w' → w'.cell? ⟨X, 0, none⟩ = some (.pointer (some ⟨V, 0, none⟩)) ∧ w'.cell? ⟨V, 1, none⟩ = some (.slice (some ⟨Q, 0, none⟩) n n) ∧ w'.cell? ⟨I, off + p, none⟩ = some (.float .f64 (E p)) ∧ Kept [Q] wr w' := fun w' k =>
        ⟨k.cellSome (by rw [cell_of_heap r4]; rfl) (by simp; omega), k.cellSome (by rw [cell_of_heap r3]; rfl) (by simp; omega), k.cellSome ((hbw.cell lI).trans (hE p hlt)) (by simp; omega), k⟩
      rw [← hwk] at hJ1 kk
      have F : ∀ w', Kept [Q] wk w' → w'.cell? ⟨X, 0, none⟩ = some (.pointer (some ⟨V, 0, none⟩)) ∧ w'.cell? ⟨V, 1, none⟩ = some (.slice (some ⟨Q, 0, none⟩) n n) ∧ w'.cell? ⟨I, off + p, none⟩ = some (.float .f64 (E p)) ∧ Kept [Q] wk w' := fun w' k => by
        obtain ⟨a, b, c, _⟩ := F w' ((kk.weaken (by simp)).trans k)
        exact ⟨a, b, c, k⟩
      obtain ⟨y0, e0, z0⟩ := hJ.spot (j := p * 2) (by omega)
      obtain ⟨y1, e1, z1⟩ := hJ.spot (j := p * 2 + 1) (by omega)
      have e0' := kk.cellSome e0 (by simp)
      have e1' := kk.cellSome e1 (by simp)
      have z0' := (kk.frozen (p := ⟨Q, p * 2, none⟩) lQ (by simp)).trans z0
      have z1' := (kk.frozen (p := ⟨Q, p * 2 + 1, none⟩) lQ (by simp)).trans z1
      have kr : Kept [Q] wr (((wk.setCell ⟨Q, p * 2, none⟩ (.float .f64 (E p))).setCell ⟨Q, p * 2 + 1, none⟩ (.func (Fn.func 8) #[] #[.pointer (some ⟨w.heap.size, 0, none⟩), .pointer (some ⟨wr.heap.size, 0, none⟩)])).drew) :=
        (((kk.weaken (by simp)).setCell (p := ⟨Q, p * 2, none⟩) (Or.inl (by simp)) _).setCell (p := ⟨Q, p * 2 + 1, none⟩) (Or.inl (by simp)) _).drew
      have q1 := (kr.block _ (lt_of_block r1) (by simp; omega)).trans r1
      have q2 := (kr.block _ (lt_of_block r2) (by simp; omega)).trans r2
      have q3 := (kr.block _ (lt_of_block r3) (by simp; omega)).trans r3
      have q4 := (kr.block _ (lt_of_block r4) (by simp; omega)).trans r4
      have hbr : Below w.heap.size w (((wk.setCell ⟨Q, p * 2, none⟩ (.float .f64 (E p))).setCell ⟨Q, p * 2 + 1, none⟩ (.func (Fn.func 8) #[] #[.pointer (some ⟨w.heap.size, 0, none⟩), .pointer (some ⟨wr.heap.size, 0, none⟩)])).drew) := hbw.trans (kr.below hbw.size (by simp; omega))
      clear hE hJ r1 r2 r3 r4 e0 e1 z0 z1 kr hbw
      go_wp2
      rw [← hwk]
      clear hwk
      go_region_held3 (fun w' => w'.cell? ⟨X, 0, none⟩ = some (.pointer (some ⟨V, 0, none⟩)) ∧ w'.cell? ⟨V, 1, none⟩ = some (.slice (some ⟨Q, 0, none⟩) n n) ∧ w'.cell? ⟨I, off + p, none⟩ = some (.float .f64 (E p)) ∧ Kept [Q] wk w')
        (first | exact F _ (Kept.refl _ _).drew | exact F _ (((Kept.refl _ _).setCell (Or.inl (by simp)) _).setCell (Or.inl (by simp)) _).drew)
        (fail)
      go_wp2
      go_roundw
      case rel => exact ⟨p + 1, by omega, by go_num, hJ1, q1, q2, q4, q3, hbr⟩
      case measure => simp [intOf]; omega
    · obtain rfl : n = p := by omega
      have kX : wr.cell? ⟨X, 0, none⟩ = some (.pointer (some ⟨V, 0, none⟩)) := by rw [cell_of_heap r4]; rfl
      have lX := lt_of_block r4
      have lV := lt_of_block r3
      have nVX : ¬ V = X := by omega
      obtain ⟨v0, v1, v2, v3, v4, v5, v6⟩ := svCells r3
      obtain ⟨f0, f1, f2, f3, f4, f5, f6⟩ := svFree r3
      have hz := zSim_run
      have hne := zSim_ne
      go_wp2_with fail
      obtain ⟨w3, hw3⟩ : ∃ w3, w3 = ((wr.setCell ⟨V, 3, none⟩ (.func (Fn.func 9) #[] #[.pointer (some ⟨w.heap.size, 0, none⟩), .pointer (some ⟨A, 0, none⟩), .pointer (some ⟨X, 0, none⟩)])).setCell ⟨V, 4, none⟩ (.func (Fn.func 10) #[] #[.pointer (some ⟨w.heap.size, 0, none⟩)])).alloc (.cells (zSim.setIfInBounds 0 (.float .f64 now)) 55) := ⟨_, rfl⟩
      rw [← hw3]
      have k3 : Kept [V] wr w3 := by rw [hw3]; exact (((Kept.refl [V] wr).setCell (p := ⟨V, 3, none⟩) (Or.inl (by simp)) _).setCell (p := ⟨V, 4, none⟩) (Or.inl (by simp)) _).alloc _
      have hV3 : ∃ e, EndIs w.heap.size true e ∧ w3.heap[V]? = some (.cells (svC true (.slice (some ⟨Q, 0, none⟩) n n) (h : Int) (.func (Fn.func 9) #[] #[.pointer (some ⟨w.heap.size, 0, none⟩), .pointer (some ⟨A, 0, none⟩), .pointer (some ⟨X, 0, none⟩)]) e busy 4619567317775286272) 29) := ⟨(.func (Fn.func 10) #[] #[.pointer (some ⟨w.heap.size, 0, none⟩)]), Or.inr ⟨rfl, rfl⟩, by rw [hw3]; exact (Below.heap_alloc _ _ _ (by simp [World.setCell]; omega)).trans (heap_setCell_same (heap_setCell_same r3 _) _)⟩
      have hS3 : Sim w3 wr.heap.size now (.slice none 0 0) (.int .u64 0) .nilIface := Sim.new (by
        have := (MapKept.heap_alloc ((wr.setCell ⟨V, 3, none⟩ (.func (Fn.func 9) #[] #[.pointer (some ⟨w.heap.size, 0, none⟩), .pointer (some ⟨A, 0, none⟩), .pointer (some ⟨X, 0, none⟩)])).setCell ⟨V, 4, none⟩ (.func (Fn.func 10) #[] #[.pointer (some ⟨w.heap.size, 0, none⟩)])) (.cells (zSim.setIfInBounds 0 (.float .f64 now)) 55)).1
        rw [show ((wr.setCell ⟨V, 3, none⟩ (.func (Fn.func 9) #[] #[.pointer (some ⟨w.heap.size, 0, none⟩), .pointer (some ⟨A, 0, none⟩), .pointer (some ⟨X, 0, none⟩)])).setCell ⟨V, 4, none⟩ (.func (Fn.func 10) #[] #[.pointer (some ⟨w.heap.size, 0, none⟩)])).heap.size = wr.heap.size from by simp [World.setCell]] at this
        rw [hw3]; exact this)
      clear hw3
      obtain ⟨e, hEnd, hV3⟩ := hV3
      have t1 := (k3.block _ (lt_of_block r1) (by simp; omega)).trans r1
      have t2 := (k3.block _ (lt_of_block r2) (by simp; omega)).trans r2
      have t4 := (k3.block _ lX (by simp; omega)).trans r4
      have lZ := hS3.cells.2.2.2.2.2.2.2
      have hJ3 : Jobs w3 w.heap.size Q n n E := hJ.kept k3 (fun b cur t fr hb hh => by
        obtain rfl : b = V := by simpa using hb
        rw [r3] at hh
        have : (29 : TypeId) = t := by injection hh with hh; injection hh
        subst this
        exact ⟨by decide, by decide⟩)
      have hb3 : Below w.heap.size w w3 := hbw.trans (k3.below hbw.size (by simp; omega))
      clear v0 v1 v2 v3 v4 v5 v6 f0 f1 f2 f3 f4 f5 f6 kX hz hne hmf hJ r1 r2 r3 r4 hbw k3
      have hee : e = .nilFunc ∨ ∃ g1 g2 g3, e = .func g1 g2 g3 := by
        rcases hEnd with ⟨_, h⟩ | ⟨_, h⟩
        · exact Or.inl h
        · exact Or.inr ⟨_, _, _, h⟩
      refine (ends_law A X V wr.heap.size Q n n h now busy 4619567317775286272 E e w3 w.heap.size hb3.size hn hin hee t1 t2 t4 hV3 hJ3 hS3 (by omega) (by omega) (by omega) (by omega)).mono ?_
      rintro r w4 ⟨rfl, K, q', h', g1, g2, g3, b', u', cur, s1, s2, s3, s4, hBy, d0, d1, d2, hb4'⟩
      have hb4 : Below w.heap.size w w4 := hb3.trans hb4'
      have s6 : Value.func g1 g2 g3 = (.func (Fn.func 10) #[] #[.pointer (some ⟨w.heap.size, 0, none⟩)]) := by
        rcases hEnd with ⟨hx, _⟩ | ⟨_, rfl⟩
        · cases hx
        · rcases s4 with s4 | s4
          · cases s4
          · exact s4
      obtain ⟨rfl, rfl, rfl⟩ := Value.func.inj s6
      clear s6
      have lI : I < w.heap.size := World.block_lt_of_cell? _ _ (hE h hin)
      have cE : w4.cell? ⟨I, off + h, none⟩ = some (.float .f64 (E h)) := (hb4.cell lI).trans (hE h hin)
      have b1 : (0 : Int) ≤ (h : Int) := by omega
      have b2 : (h : Int) < (n : Int) := by omega
      have en := eq_nil_nil
      have ef := eq_func_nil
      have nn := ne_nil_nil
      have nf := ne_func_nil
      have fa := fun w t x y => run_fadd (P := Yba.prog) w t x y
      replace hbf := unhide hbf
      replace hla := unhide hla
      have hB1 := bef_no hbf
      have hta := ta60
      clear t1 t2 t4 hV3 hJ3 hS3 hb3 hb4' hee hEnd s4 lZ hsf
      obtain ⟨hl, rfl, rfl⟩ : h + 1 ≠ n ∧ q' = .slice (some ⟨Q, 0, none⟩) n n ∧ h' = (h : Int) + 1 := by
        rcases s1 with s1 | s1
        · exact absurd s1.1 hla
        · exact s1
      have hlI : ¬ (h : Int) + 1 = (n : Int) := by omega
      have w0 : w4.cell? ⟨Q, h * 2, none⟩ = some (.float .f64 0) := by rw [cell_of_heap hBy.q]; exact d0
      have w1' : w4.cell? ⟨Q, h * 2 + 1, none⟩ = some .nilFunc := by rw [cell_of_heap hBy.q]; exact d1
      have h00 : FloatKind.f64.format.order 0 0 = some .eq := by kernel_rfl
      clear s1 hl d0 d1 hla
      obtain ⟨g, cp, g', cp', kL, kg, kA, kg', kX⟩ := hBy.cells
      obtain ⟨v0, v1, v2, v3, v4, v5, v6⟩ := svCells hBy.v
      go_wp2_with (go_at_call 12; refine (same_any _ _ _ ?_).mono ?_; (first | exact Same.of_res s2 (fV_res .add busy (E h) _) | exact Same.of_res s3 (fV_res .add now (E h) _) | exact Same.refl _); rintro e w5 ⟨rfl, rfl⟩)
      go_loopw [20] (fun i wl => ∃ p : Nat, h < p ∧ p ≤ n ∧ i = .int .i64 p ∧ Kept [] w4 wl) (fun i _ => n - (intOf i).toNat)
      case atStart => exact ⟨h + 1, by omega, by omega, by go_num, (by repeat (first | exact Kept.refl _ _ | apply Kept.drewN | apply Kept.drew))⟩
      case round =>
        obtain ⟨p, hp1, hp2, rfl, hkl⟩ := hrel
        clear kL kg kA kg' kX v0 v1 v2 v3 v4 v5 v6 w0 w1' h00 cE
        have hBl := hBy.kept hkl
        have hbl : Below w.heap.size w wr := hb4.trans (hkl.below hb4.size (by simp))
        by_cases hpn : p < n
        · obtain ⟨e0, f, e1⟩ := d2 p hp1 hpn
          have kX : wr.cell? ⟨X, 0, none⟩ = some (.pointer (some ⟨V, 0, none⟩)) := by rw [cell_of_heap hBl.x]; rfl
          obtain ⟨v0, v1, v2, v3, v4, v5, v6⟩ := svCells hBl.v
          have c0 : wr.cell? ⟨Q, p * 2, none⟩ = some (.float .f64 (E p)) := by rw [cell_of_heap hBl.q]; exact e0
          have c1 : wr.cell? ⟨Q, p * 2 + 1, none⟩ = some (.func (Fn.func 8) #[] f) := by rw [cell_of_heap hBl.q]; exact e1
          have c2 : wr.cell? ⟨I, off + p, none⟩ = some (.float .f64 (E p)) := (hbl.cell lI).trans (hE p hpn)
          have b3 : (0 : Int) ≤ (p : Int) := by omega
          have b4 : (p : Int) < (n : Int) := by omega
          clear d2 hE hBy hBl hbl fa hB1
          go_wp2
          go_quiet ((go_at_call 12; exact Calls.quiet_of_same (same_any _ _ _ (Same.refl _))))
          go_wp2
          go_roundw
          case rel => exact ⟨p + 1, by omega, by omega, by go_num, hkl.trans (by repeat (first | exact Kept.refl _ _ | apply Kept.drewN | apply Kept.drew))⟩
          case measure => simp [intOf]; omega
        · obtain rfl : n = p := by omega
          clear hBy hkl d2 hE
          obtain ⟨g, cp, g', cp', kL, kg, kA, kg', kX⟩ := hBl.cells
          obtain ⟨v0, v1, v2, v3, v4, v5, v6⟩ := svCells hBl.v
          obtain ⟨T, y1, y2, y3, y4, y5, y6⟩ := hBl.ev.no ((before_res s3).trans hbf)
          go_wp2_with (go_at_call 12; refine (same_any _ _ _ ?_).mono ?_; (first | exact Same.of_res s2 (fV_res .add busy (E h) _) | exact Same.of_res s3 (fV_res .add now (E h) _) | exact Same.refl _); rintro e w5 ⟨rfl, rfl⟩)
          all_goals first
            | exact (bad_no hB1 (by assumption) (by assumption)).elim
            | (
              obtain ⟨lv, hl1, hl2⟩ := hBl.log
              refine (job_any w.heap.size w.heap.size K (h : Nat) lv [.int .i64 (-1)] _ (by exact hl1) (by exact hBl.k) (by exact Sl1.sl hl2) (by simp) (Nat.le_refl _)).mono ?_
              rintro r w6 ⟨rfl, lv2, m1, m2, m3⟩
              have hb6 : Below w.heap.size w w6 := below_chg hbl (by repeat (first | exact Kept.refl _ _ | apply Kept.drewN | apply Kept.drew)) m3 hbl.size
              have hX6 := m3.block (by exact hBl.x) (by simp)
              have hV6 := m3.block (by exact hBl.v) (by simp)
              obtain ⟨S2, o2, c2, rfl, m4⟩ := m2.out (by simp)
              have n1 : w6.cell? ⟨w.heap.size, 0, none⟩ = some (.slice (some ⟨S2, o2, none⟩) 2 c2) := by rw [cell_of_heap m1]; rfl
              have n2 : w6.cell? ⟨S2, o2 + 1, none⟩ = some (.int .i64 (h : Nat)) := m4 1 _ rfl
              clear kL kg kA kg' kX v0 v1 v2 v3 v4 v5 v6 y1 y2 y3 y4 y5 hB1
              have n3 : w6.cell? ⟨X, 0, none⟩ = some (.pointer (some ⟨V, 0, none⟩)) := by rw [cell_of_heap hX6]; rfl
              obtain ⟨v0, v1, v2, v3, v4, v5, v6⟩ := svCells hV6
              clear m4 hl1 hl2
              go_wp2_with fail
              refine (end_any w.heap.size w.heap.size _ [.int .i64 (-1), .int .i64 (h : Nat)] _ (by exact m1) (by exact m2) (by simp) (Nat.le_refl _)).mono ?_
              rintro r w7 ⟨rfl, lv3, p1, p2, p3⟩
              have hb7 : Below w.heap.size w w7 := below_chg hb6 (by repeat (first | exact Kept.refl _ _ | apply Kept.drewN | apply Kept.drew)) p3 hb6.size
              obtain ⟨S3, o3, c3, rfl, p4⟩ := p2.out (by simp)
              have x1 : w7.cell? ⟨w.heap.size, 0, none⟩ = some (.slice (some ⟨S3, o3, none⟩) 3 c3) := by rw [cell_of_heap p1]; rfl
              have x2 : w7.cell? ⟨S3, o3 + 2, none⟩ = some (.int .i64 (-2)) := p4 2 _ rfl
              clear n1 n2 n3 v0 v1 v2 v3 v4 v5 v6 p4
              go_wp2
              go_ret
              exact ⟨rfl, hb7⟩)
end Go.Proofs.Ybulkcoda
