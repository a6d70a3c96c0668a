import Derived.Test.YbulkcodaZ4
import Derived.Deep.RegionHeld3
namespace Go.Proofs.Ybulkcoda
open Go.RowKit

theorem svCells {w : World} {V : Nat} {s : Bool} {q : Value} {h : Int} {d e : Value} {b u : Nat} (hV : w.heap[V]? = some (.cells (svC s q h d e b u) 29)) :
    w.cell? ⟨V, 0, none⟩ = some (.bool s) ∧ w.cell? ⟨V, 1, none⟩ = some q ∧ w.cell? ⟨V, 2, none⟩ = some (.int .i64 h) ∧ w.cell? ⟨V, 3, none⟩ = some d ∧ w.cell? ⟨V, 4, none⟩ = some e ∧ w.cell? ⟨V, 5, none⟩ = some (.float .f64 b) ∧ w.cell? ⟨V, 6, none⟩ = some (.float .f64 u) := by
  refine ⟨?_, ?_, ?_, ?_, ?_, ?_, ?_⟩ <;> (rw [cell_of_heap hV]; rfl)

theorem svFree {w : World} {V : Nat} {s : Bool} {q : Value} {h : Int} {d e : Value} {b u : Nat} (hV : w.heap[V]? = some (.cells (svC s q h d e b u) 29)) :
    w.frozen? ⟨V, 0, none⟩ = false ∧ w.frozen? ⟨V, 1, none⟩ = false ∧ w.frozen? ⟨V, 2, none⟩ = false ∧ w.frozen? ⟨V, 3, none⟩ = false ∧ w.frozen? ⟨V, 4, none⟩ = false ∧ w.frozen? ⟨V, 5, none⟩ = false ∧ w.frozen? ⟨V, 6, none⟩ = false :=
  ⟨free_of_heap hV, free_of_heap hV, free_of_heap hV, free_of_heap hV, free_of_heap hV, free_of_heap hV, free_of_heap hV⟩

/-- The queue and the head behind serveNext. -/
def QH (Q n c h : Nat) (q : Value) (h' : Int) : Prop := (h + 1 = n ∧ q = .slice (some ⟨Q, 0, none⟩) 0 c ∧ h' = 0) ∨ (h + 1 ≠ n ∧ q = .slice (some ⟨Q, 0, none⟩) n c ∧ h' = (h : Int) + 1)

/-- The head job as serveNext takes it. -/
def Job (w : World) (Q h D : Nat) (fi : Fn) (ff fc : Array Value) (cur : Array Value) : Prop := w.heap[Q]? = some (.cells cur 31) ∧ cur[h * 2]? = some (.float .f64 D) ∧ cur[h * 2 + 1]? = some (.func fi ff fc)

/-- What serveNext leaves. -/
def Served (w w' : World) (V S Q n c h D now b : Nat) (f : Value) (cur : Array Value) (e : Value) : Prop := ∃ q' h' g1 g2 g3 b' u', QH Q n c h q' h' ∧ Res (floatBits .add .f64 b D) b' ∧ Res (floatBits .add .f64 now D) u' ∧ (e = .nilFunc ∨ Value.func g1 g2 g3 = e) ∧
  w'.heap[V]? = some (.cells (svC true q' h' f (.func g1 g2 g3) b' u') 29) ∧ w'.heap[Q]? = some (.cells ((cur.setIfInBounds (h * 2) (.float .f64 0)).setIfInBounds (h * 2 + 1) .nilFunc) 31) ∧ AtRes w' S now u' (.func g1 g2 g3) ∧ Kept [V, Q, S] w w'

theorem kept5 {a b c d e : Prop} {ex : List Nat} {w w' : World} (h : a ∧ b ∧ c ∧ d ∧ e ∧ Kept ex w w') : Kept ex w w' := h.2.2.2.2.2

set_option maxRecDepth 100000 in
set_option maxHeartbeats 4000000 in
theorem serve_any (V S Q n c h D now b u : Nat) (fi : Fn) (ff fc : Array Value) (cur : Array Value) (d e : Value) (w : World) (hn : n ≤ 1024) (hh : h < n) (he : e = .nilFunc ∨ ∃ g1 g2 g3, e = .func g1 g2 g3)
    (hV : w.heap[V]? = some (.cells (svC false (.slice (some ⟨Q, 0, none⟩) n c) h d e b u) 29)) (hQ : Job w Q h D fi ff fc cur) (hS : Sim w S now (.slice none 0 0) (.int .u64 0) .nilIface) :
    Calls Yba.prog 21 #[.pointer (some ⟨V, 0, none⟩), .pointer (some ⟨S, 0, none⟩)] w fun r w' => r = .returned (.tuple #[]) ∧ Served w w' V S Q n c h D now b (.func fi ff fc) cur e := by
  obtain ⟨v0, v1, v2, v3, v4, v5, v6⟩ := svCells hV
  have q0 : w.cell? ⟨Q, h * 2, none⟩ = some (.float .f64 D) := by rw [cell_of_heap hQ.1]; exact hQ.2.1
  have q1 : w.cell? ⟨Q, h * 2 + 1, none⟩ = some (.func fi ff fc) := by rw [cell_of_heap hQ.1]; exact hQ.2.2
  have z0 : w.frozen? ⟨Q, h * 2, none⟩ = false := free_of_heap hQ.1
  have z1 : w.frozen? ⟨Q, h * 2 + 1, none⟩ = false := free_of_heap hQ.1
  have lV := lt_of_block hV
  have lS : S < w.heap.size := hS.cells.2.2.2.2.2.2.2
  have lQ := lt_of_block hQ.1
  have b1 : (0 : Int) ≤ (h : Int) := by omega
  have b2 : (h : Int) < (n : Int) := by omega
  have hmf : ∀ (fn : Fn) (first cap : Array Value) (w : World), (Instr.makeFunc fn first cap).run Yba.prog w = .ok (.func fn first cap) w := fun _ _ _ _ => rfl
  have hsf := fun (w : World) (a : Addr) (b : Nat) (m : Mode) => run_store Yba.prog w a (.float .f64 b) m rfl
  go_enter Yba.func21, Yba.ntmps21
  go_wp2
  obtain ⟨wB, hwB⟩ : ∃ wB, wB = (w.alloc (.cells #[.pointer (some ⟨V, 0, none⟩)] 26)).alloc (.cells #[.pointer (some ⟨S, 0, none⟩)] 32) := ⟨_, rfl⟩
  rw [← hwB]
  have kB : Kept [] w wB := by rw [hwB]; exact ((Kept.refl [] w).alloc _).alloc _
  have p0 : wB.heap[w.heap.size]? = some (.cells #[.pointer (some ⟨V, 0, none⟩)] 26) := by rw [hwB]; exact (Below.heap_alloc _ _ _ (by simp)).trans (MapKept.heap_alloc w _).1
  have p1 : wB.heap[w.heap.size + 1]? = some (.cells #[.pointer (some ⟨S, 0, none⟩)] 32) := by
    have := (MapKept.heap_alloc (w.alloc (.cells #[.pointer (some ⟨V, 0, none⟩)] 26)) (.cells #[.pointer (some ⟨S, 0, none⟩)] 32)).1
    rw [World.size_alloc] at this
    rw [hwB]; exact this
  have sB : wB.heap.size = w.heap.size + 2 := by rw [hwB]; simp
  have F : ∀ w', Kept [] wB w' → w'.cell? ⟨w.heap.size, 0, none⟩ = some (.pointer (some ⟨V, 0, none⟩)) ∧ w'.cell? ⟨V, 1, none⟩ = some (.slice (some ⟨Q, 0, none⟩) n c) ∧ w'.cell? ⟨V, 2, none⟩ = some (.int .i64 (h : Nat)) ∧ w'.cell? ⟨Q, h * 2, none⟩ = some (.float .f64 D) ∧ w'.cell? ⟨Q, h * 2 + 1, none⟩ = some (.func fi ff fc) ∧ Kept [] wB w' := fun w' k =>
    ⟨k.cellSome (by rw [cell_of_heap p0]; rfl) (by simp), (kB.trans k).cellSome v1 (by simp), (kB.trans k).cellSome v2 (by simp), (kB.trans k).cellSome q0 (by simp), (kB.trans k).cellSome q1 (by simp), k⟩
  clear hwB
  go_region_held3 (fun w' => w'.cell? ⟨w.heap.size, 0, none⟩ = some (.pointer (some ⟨V, 0, none⟩)) ∧ w'.cell? ⟨V, 1, none⟩ = some (.slice (some ⟨Q, 0, none⟩) n c) ∧ w'.cell? ⟨V, 2, none⟩ = some (.int .i64 (h : Nat)) ∧ w'.cell? ⟨Q, h * 2, none⟩ = some (.float .f64 D) ∧ w'.cell? ⟨Q, h * 2 + 1, none⟩ = some (.func fi ff fc) ∧ Kept [] wB w')
    (first | exact F _ (Kept.refl _ _).drew | exact F _ ((Kept.refl _ _).alloc _).drew)
    (fail)
  obtain ⟨w1, hw1⟩ : ∃ w1, w1 = (wB.alloc (.cells #[.float .f64 D, .func fi ff fc] 31)).drew := ⟨_, rfl⟩
  rw [← hw1]
  have k1 : Kept [] wB w1 := by rw [hw1]; exact ((Kept.refl [] wB).alloc _).drew
  have K1 : Kept [] w w1 := kB.trans k1
  have j1 : w1.heap[w.heap.size + 2]? = some (.cells #[.float .f64 D, .func fi ff fc] 31) := by
    have := (MapKept.heap_alloc wB (.cells #[.float .f64 D, .func fi ff fc] 31)).1
    rw [sB] at this
    rw [hw1]; exact this
  replace p1 := (k1.block _ (lt_of_block p1) (by simp)).trans p1
  replace p0 := (k1.block _ (lt_of_block p0) (by simp)).trans p0
  have hV1 := (K1.block _ lV (by simp)).trans hV
  have hQ1 := (K1.block _ lQ (by simp)).trans hQ.1
  have hS1 := hS.kept K1 (by simp)
  have nVQ : ¬ V = Q := by intro e; subst e; have := hQ.1; rw [hV] at this; simp at this
  have F2 : ∀ w', Kept [Q] w1 w' → w'.cell? ⟨w.heap.size, 0, none⟩ = some (.pointer (some ⟨V, 0, none⟩)) ∧ w'.cell? ⟨V, 1, none⟩ = some (.slice (some ⟨Q, 0, none⟩) n c) ∧ w'.cell? ⟨V, 2, none⟩ = some (.int .i64 (h : Nat)) ∧ Kept [Q] w1 w' := fun w' k =>
    ⟨k.cellSome (by rw [cell_of_heap p0]; rfl) (by simp; omega), k.cellSome (K1.cellSome v1 (by simp)) (by simp; omega), k.cellSome (K1.cellSome v2 (by simp)) (by simp; omega), k⟩
  replace q0 := K1.cellSome q0 (by simp)
  replace q1 := K1.cellSome q1 (by simp)
  have z0 : w1.frozen? ⟨Q, h * 2, none⟩ = false := free_of_heap hQ1
  have z1 : w1.frozen? ⟨Q, h * 2 + 1, none⟩ = false := free_of_heap hQ1
  clear hw1 F v0 v1 v2 v3 v4 v5 v6 kB k1
  go_wp2
  go_region_held3 (fun w' => w'.cell? ⟨w.heap.size, 0, none⟩ = some (.pointer (some ⟨V, 0, none⟩)) ∧ w'.cell? ⟨V, 1, none⟩ = some (.slice (some ⟨Q, 0, none⟩) n c) ∧ w'.cell? ⟨V, 2, none⟩ = some (.int .i64 (h : Nat)) ∧ Kept [Q] w1 w')
    (first | exact F2 _ (Kept.refl _ _).drew | exact F2 _ (((Kept.refl _ _).setCell (Or.inl (by simp)) _).setCell (Or.inl (by simp)) _).drew | exact F2 _ (((Kept.refl _ _).drew.setCell (Or.inl (by simp)) _).setCell (Or.inl (by simp)) _))
    (fail)
  obtain ⟨w2, hw2⟩ : ∃ w2, w2 = ((w1.setCell ⟨Q, h * 2, none⟩ (.float .f64 0)).setCell ⟨Q, h * 2 + 1, none⟩ .nilFunc).drew := ⟨_, rfl⟩
  rw [← hw2]
  have k2 : Kept [Q] w1 w2 := by rw [hw2]; exact (((Kept.refl _ _).setCell (p := ⟨Q, h * 2, none⟩) (Or.inl (by simp)) _).setCell (p := ⟨Q, h * 2 + 1, none⟩) (Or.inl (by simp)) _).drew
  have hQ2 : w2.heap[Q]? = some (.cells ((cur.setIfInBounds (h * 2) (.float .f64 0)).setIfInBounds (h * 2 + 1) .nilFunc) 31) := by rw [hw2]; exact heap_setCell_same (heap_setCell_same hQ1 _) _
  replace p0 := (k2.block _ (lt_of_block p0) (by simp; omega)).trans p0
  replace p1 := (k2.block _ (lt_of_block p1) (by simp; omega)).trans p1
  replace j1 := (k2.block _ (lt_of_block j1) (by simp; omega)).trans j1
  have hV2 := (k2.block _ (lt_of_block hV1) (by simp; omega)).trans hV1
  have nSQ : ¬ S = Q := by intro e; subst e; obtain ⟨cs, hc, _⟩ := hS1; rw [hQ1] at hc; simp at hc
  have nSV : ¬ S = V := by intro e; subst e; obtain ⟨cs, hc, _⟩ := hS1; rw [hV1] at hc; simp at hc
  have hS2 := hS1.kept k2 (by simp; omega)
  have K2 : Kept [Q] w w2 := (K1.weaken (by simp)).trans k2
  obtain ⟨v0, v1, v2, v3, v4, v5, v6⟩ := svCells hV2
  have f2 : w2.frozen? ⟨V, 2, none⟩ = false := free_of_heap hV2
  have x0 : w2.cell? ⟨w.heap.size, 0, none⟩ = some (.pointer (some ⟨V, 0, none⟩)) := by rw [cell_of_heap p0]; rfl
  have n0 : ¬ V = w.heap.size := by omega
  clear hw2 F2 hQ1 hS1 hV1 q0 q1 z0 z1
  go_wp2
  clear v0 v1 v2 v3 v4 v5 v6 f2 x0
  obtain ⟨w3, hw3⟩ : ∃ w3, w3 = w2.setCell ⟨V, 2, none⟩ (.int .i64 ((h : Int) + 1)) := ⟨_, rfl⟩
  rw [← hw3]
  have k3 : Kept [V] w2 w3 := by rw [hw3]; exact (Kept.refl _ _).setCell (p := ⟨V, 2, none⟩) (Or.inl (by simp)) _
  have hV3 : w3.heap[V]? = some (.cells (svC false (.slice (some ⟨Q, 0, none⟩) n c) ((h : Int) + 1) d e b u) 29) := by rw [hw3]; exact heap_setCell_same hV2 _
  replace p0 := (k3.block _ (lt_of_block p0) (by simp; omega)).trans p0
  replace p1 := (k3.block _ (lt_of_block p1) (by simp; omega)).trans p1
  replace j1 := (k3.block _ (lt_of_block j1) (by simp; omega)).trans j1
  have hQ3 := (k3.block _ (lt_of_block hQ2) (by simp; omega)).trans hQ2
  have hS3 := hS2.kept k3 (by simp; omega)
  have K3 : Kept [V, Q] w w3 := (K2.weaken (by simp)).trans (k3.weaken (by simp))
  obtain ⟨v0, v1, v2, v3, v4, v5, v6⟩ := svCells hV3
  have x0 : w3.cell? ⟨w.heap.size, 0, none⟩ = some (.pointer (some ⟨V, 0, none⟩)) := by rw [cell_of_heap p0]; rfl
  have x1 : w3.cell? ⟨w.heap.size + 1, 0, none⟩ = some (.pointer (some ⟨S, 0, none⟩)) := by rw [cell_of_heap p1]; rfl
  obtain ⟨f0, f1, f2, f3, f4, f5, f6⟩ := svFree hV3
  clear hw3 hQ2 hV2 hS2 K2 K1 k2 k3 sB
  by_cases hl : (h : Int) + 1 = (n : Int)
  case' pos =>
    go_quiet (fail)
    go_wp2
    go_region
    go_wp2
    obtain ⟨w4, hw4⟩ : ∃ w4, w4 = (((w3.drewN (nq + 1)).setCell ⟨V, 1, none⟩ (.slice (some ⟨Q, 0, none⟩) 0 c)).setCell ⟨V, 2, none⟩ (.int .i64 0)).setCell ⟨V, 0, none⟩ (.bool true) := ⟨_, rfl⟩
    rw [← hw4]
    have k4 : Kept [V] w3 w4 := by rw [hw4]; exact ((((Kept.refl [V] w3).drewN _).setCell (p := ⟨V, 1, none⟩) (Or.inl (by simp)) _).setCell (p := ⟨V, 2, none⟩) (Or.inl (by simp)) _).setCell (p := ⟨V, 0, none⟩) (Or.inl (by simp)) _
    have hV4 : ∃ q' h', QH Q n c h q' h' ∧ w4.heap[V]? = some (.cells (svC true q' h' d e b u) 29) := ⟨_, 0, Or.inl ⟨by omega, rfl, rfl⟩, by rw [hw4]; exact heap_setCell_same (heap_setCell_same (heap_setCell_same (w := w3.drewN (nq + 1)) hV3 _) _) _⟩
    clear hw4
  case' neg =>
    go_quiet (fail)
    go_wp2
    obtain ⟨w4, hw4⟩ : ∃ w4, w4 = (w3.drewN nq).setCell ⟨V, 0, none⟩ (.bool true) := ⟨_, rfl⟩
    rw [← hw4]
    have k4 : Kept [V] w3 w4 := by rw [hw4]; exact ((Kept.refl [V] w3).drewN _).setCell (p := ⟨V, 0, none⟩) (Or.inl (by simp)) _
    have hV4 : ∃ q' h', QH Q n c h q' h' ∧ w4.heap[V]? = some (.cells (svC true q' h' d e b u) 29) := ⟨_, _, Or.inr ⟨by omega, rfl, rfl⟩, by rw [hw4]; exact heap_setCell_same (w := w3.drewN nq) hV3 _⟩
    clear hw4
  all_goals
    clear v0 v1 v2 v3 v4 v5 v6 f0 f1 f2 f3 f4 f5 f6 x0 x1
    obtain ⟨q', h', hqh, hV4⟩ := hV4
    replace p0 := (k4.block _ (lt_of_block p0) (by simp; omega)).trans p0
    replace p1 := (k4.block _ (lt_of_block p1) (by simp; omega)).trans p1
    replace j1 := (k4.block _ (lt_of_block j1) (by simp; omega)).trans j1
    replace hQ3 := (k4.block _ (lt_of_block hQ3) (by simp; omega)).trans hQ3
    replace hS3 := hS3.kept k4 (by simp; omega)
    replace K3 : Kept [V, Q] w w4 := K3.trans (k4.weaken (by simp))
    obtain ⟨v0, v1, v2, v3, v4, v5, v6⟩ := svCells hV4
    obtain ⟨f0, f1, f2, f3, f4, f5, f6⟩ := svFree hV4
    have x0 : w4.cell? ⟨w.heap.size, 0, none⟩ = some (.pointer (some ⟨V, 0, none⟩)) := by rw [cell_of_heap p0]; rfl
    have y0 : w4.cell? ⟨w.heap.size + 2, 0, none⟩ = some (.float .f64 D) := by rw [cell_of_heap j1]; rfl
    have fa := fun w t x y => run_fadd (P := Yba.prog) w t x y
    clear hV3 k4
    go_region
    obtain ⟨w5, hw5⟩ : ∃ w5, w5 = (w4.drewN (1 + fN BinOp.add b D)).setCell ⟨V, 5, none⟩ (.float .f64 (fV BinOp.add b D w4.drew)) := ⟨_, rfl⟩
    rw [← hw5]
    have hb' := fV_res .add b D w4.drew
    have k5 : Kept [V] w4 w5 := by rw [hw5]; exact ((Kept.refl [V] w4).drewN _).setCell (p := ⟨V, 5, none⟩) (Or.inl (by simp)) _
    have hV5 : w5.heap[V]? = some (.cells (svC true q' h' d e (fV BinOp.add b D w4.drew) u) 29) := by rw [hw5]; exact heap_setCell_same (w := w4.drewN (1 + fN BinOp.add b D)) hV4 _
    generalize fV BinOp.add b D w4.drew = b' at hw5 hb' hV5
    clear hw5 v0 v1 v2 v3 v4 v5 v6 f0 f1 f2 f3 f4 f5 f6 x0 y0 hV4
    replace p0 := (k5.block _ (lt_of_block p0) (by simp; omega)).trans p0
    replace p1 := (k5.block _ (lt_of_block p1) (by simp; omega)).trans p1
    replace j1 := (k5.block _ (lt_of_block j1) (by simp; omega)).trans j1
    replace hQ3 := (k5.block _ (lt_of_block hQ3) (by simp; omega)).trans hQ3
    replace hS3 := hS3.kept k5 (by simp; omega)
    replace K3 : Kept [V, Q] w w5 := K3.trans (k5.weaken (by simp))
    obtain ⟨v0, v1, v2, v3, v4, v5, v6⟩ := svCells hV5
    obtain ⟨f0, f1, f2, f3, f4, f5, f6⟩ := svFree hV5
    have x0 : w5.cell? ⟨w.heap.size, 0, none⟩ = some (.pointer (some ⟨V, 0, none⟩)) := by rw [cell_of_heap p0]; rfl
    have x1 : w5.cell? ⟨w.heap.size + 1, 0, none⟩ = some (.pointer (some ⟨S, 0, none⟩)) := by rw [cell_of_heap p1]; rfl
    have y0 : w5.cell? ⟨w.heap.size + 2, 0, none⟩ = some (.float .f64 D) := by rw [cell_of_heap j1]; rfl
    have s0 : w5.cell? ⟨S, 0, none⟩ = some (.float .f64 now) := hS3.cells.1
    clear k5
    go_wp2
    go_region
    obtain ⟨w6, hw6⟩ : ∃ w6, w6 = (w5.drewN (1 + fN BinOp.add now D)).setCell ⟨V, 6, none⟩ (.float .f64 (fV BinOp.add now D w5.drew)) := ⟨_, rfl⟩
    rw [← hw6]
    have hu' := fV_res .add now D w5.drew
    have k6 : Kept [V] w5 w6 := by rw [hw6]; exact ((Kept.refl [V] w5).drewN _).setCell (p := ⟨V, 6, none⟩) (Or.inl (by simp)) _
    have hV6 : w6.heap[V]? = some (.cells (svC true q' h' d e b' (fV BinOp.add now D w5.drew)) 29) := by rw [hw6]; exact heap_setCell_same (w := w5.drewN (1 + fN BinOp.add now D)) hV5 _
    generalize fV BinOp.add now D w5.drew = u' at hw6 hu' hV6
    clear hw6 v0 v1 v2 v3 v4 v5 v6 f0 f1 f2 f3 f4 f5 f6 x0 x1 y0 s0 hV5
    replace p0 := (k6.block _ (lt_of_block p0) (by simp; omega)).trans p0
    replace p1 := (k6.block _ (lt_of_block p1) (by simp; omega)).trans p1
    replace j1 := (k6.block _ (lt_of_block j1) (by simp; omega)).trans j1
    replace hQ3 := (k6.block _ (lt_of_block hQ3) (by simp; omega)).trans hQ3
    replace hS3 := hS3.kept k6 (by simp; omega)
    replace K3 : Kept [V, Q] w w6 := K3.trans (k6.weaken (by simp))
    obtain ⟨v0, v1, v2, v3, v4, v5, v6⟩ := svCells hV6
    obtain ⟨f0, f1, f2, f3, f4, f5, f6⟩ := svFree hV6
    have x0 : w6.cell? ⟨w.heap.size, 0, none⟩ = some (.pointer (some ⟨V, 0, none⟩)) := by rw [cell_of_heap p0]; rfl
    have x1 : w6.cell? ⟨w.heap.size + 1, 0, none⟩ = some (.pointer (some ⟨S, 0, none⟩)) := by rw [cell_of_heap p1]; rfl
    have y1 : w6.cell? ⟨w.heap.size + 2, 1, none⟩ = some (.func fi ff fc) := by rw [cell_of_heap j1]; rfl
    have n1 : ¬ V = w.heap.size + 1 := by omega
    have n2 : ¬ V = w.heap.size + 2 := by omega
    clear k6
    have en := eq_nil_nil
    have ef := eq_func_nil
    rcases he with rfl | ⟨g1, g2, g3, rfl⟩
    · go_wp2
      obtain ⟨w7, hw7⟩ : ∃ w7, w7 = (w6.setCell ⟨V, 3, none⟩ (.func fi ff fc)).setCell ⟨V, 4, none⟩ (.func (Fn.func 26) #[] #[.pointer (some ⟨w.heap.size, 0, none⟩), .pointer (some ⟨w.heap.size + 1, 0, none⟩)]) := ⟨_, rfl⟩
      rw [← hw7]
      have k7 : Kept [V] w6 w7 := by rw [hw7]; exact ((Kept.refl [V] w6).setCell (p := ⟨V, 3, none⟩) (Or.inl (by simp)) _).setCell (p := ⟨V, 4, none⟩) (Or.inl (by simp)) _
      have hV7 : w7.heap[V]? = some (.cells (svC true q' h' (.func fi ff fc) (.func (Fn.func 26) #[] #[.pointer (some ⟨w.heap.size, 0, none⟩), .pointer (some ⟨w.heap.size + 1, 0, none⟩)]) b' u') 29) := by rw [hw7]; exact heap_setCell_same (heap_setCell_same hV6 _) _
      clear hw7 v0 v1 v2 v3 v4 v5 v6 f0 f1 f2 f3 f4 f5 f6 x0 x1 y1 hV6 en ef
      replace p0 := (k7.block _ (lt_of_block p0) (by simp; omega)).trans p0
      replace p1 := (k7.block _ (lt_of_block p1) (by simp; omega)).trans p1
      replace hQ3 := (k7.block _ (lt_of_block hQ3) (by simp; omega)).trans hQ3
      replace hS3 := hS3.kept k7 (by simp; omega)
      replace K3 : Kept [V, Q] w w7 := K3.trans (k7.weaken (by simp))
      obtain ⟨v0, v1, v2, v3, v4, v5, v6⟩ := svCells hV7
      have x0 : w7.cell? ⟨w.heap.size, 0, none⟩ = some (.pointer (some ⟨V, 0, none⟩)) := by rw [cell_of_heap p0]; rfl
      have x1 : w7.cell? ⟨w.heap.size + 1, 0, none⟩ = some (.pointer (some ⟨S, 0, none⟩)) := by rw [cell_of_heap p1]; rfl
      clear k7
      have F7 : ∀ w', Kept [S] w7 w' → w'.cell? ⟨w.heap.size, 0, none⟩ = some (.pointer (some ⟨V, 0, none⟩)) ∧ w'.cell? ⟨w.heap.size + 1, 0, none⟩ = some (.pointer (some ⟨S, 0, none⟩)) ∧ w'.cell? ⟨V, 6, none⟩ = some (.float .f64 u') ∧ w'.cell? ⟨V, 4, none⟩ = some (.func (Fn.func 26) #[] #[.pointer (some ⟨w.heap.size, 0, none⟩), .pointer (some ⟨w.heap.size + 1, 0, none⟩)]) ∧ Kept [S] w7 w' := fun w' k =>
        ⟨k.cellSome x0 (by simp; omega), k.cellSome x1 (by simp; omega), k.cellSome v6 (by simp; omega), k.cellSome v4 (by simp; omega), k⟩
      go_region_held3 (fun w' => w'.cell? ⟨w.heap.size, 0, none⟩ = some (.pointer (some ⟨V, 0, none⟩)) ∧ w'.cell? ⟨w.heap.size + 1, 0, none⟩ = some (.pointer (some ⟨S, 0, none⟩)) ∧ w'.cell? ⟨V, 6, none⟩ = some (.float .f64 u') ∧ w'.cell? ⟨V, 4, none⟩ = some (.func (Fn.func 26) #[] #[.pointer (some ⟨w.heap.size, 0, none⟩), .pointer (some ⟨w.heap.size + 1, 0, none⟩)]) ∧ Kept [S] w7 w')
        (first | exact F7 _ (Kept.refl _ _).drew | exact F7 _ ((Kept.refl _ _).drew.trans (by assumption)))
        (first | (go_at_call 27; refine (at_any S now u' (Fn.func 26) (#[] : Array Value) (#[.pointer (some ⟨w.heap.size, 0, none⟩), .pointer (some ⟨w.heap.size + 1, 0, none⟩)] : Array Value) _ (by exact hS3)).mono ?_; rintro r w8 ⟨rfl, hat, hk8⟩))
      all_goals
        go_wp2
        go_end0
        have K8 : Kept [V, Q, S] w w8 := (K3.weaken (by simp)).trans ((((Kept.refl [S] w7).drew).trans hk8).weaken (by simp))
        exact ⟨rfl, q', h', Fn.func 26, #[], #[.pointer (some ⟨w.heap.size, 0, none⟩), .pointer (some ⟨w.heap.size + 1, 0, none⟩)], b', u', hqh, hb', hu', Or.inl rfl, (hk8.block V (lt_of_block hV7) (by simp; omega)).trans hV7, (hk8.block Q (lt_of_block hQ3) (by simp; omega)).trans hQ3, hat, K8⟩
    · go_wp2
      obtain ⟨w7, hw7⟩ : ∃ w7, w7 = w6.setCell ⟨V, 3, none⟩ (.func fi ff fc) := ⟨_, rfl⟩
      rw [← hw7]
      have k7 : Kept [V] w6 w7 := by rw [hw7]; exact (Kept.refl [V] w6).setCell (p := ⟨V, 3, none⟩) (Or.inl (by simp)) _
      have hV7 : w7.heap[V]? = some (.cells (svC true q' h' (.func fi ff fc) (.func g1 g2 g3) b' u') 29) := by rw [hw7]; exact heap_setCell_same hV6 _
      clear hw7 v0 v1 v2 v3 v4 v5 v6 f0 f1 f2 f3 f4 f5 f6 x0 x1 y1 hV6 en ef
      replace p0 := (k7.block _ (lt_of_block p0) (by simp; omega)).trans p0
      replace p1 := (k7.block _ (lt_of_block p1) (by simp; omega)).trans p1
      replace hQ3 := (k7.block _ (lt_of_block hQ3) (by simp; omega)).trans hQ3
      replace hS3 := hS3.kept k7 (by simp; omega)
      replace K3 : Kept [V, Q] w w7 := K3.trans (k7.weaken (by simp))
      obtain ⟨v0, v1, v2, v3, v4, v5, v6⟩ := svCells hV7
      have x0 : w7.cell? ⟨w.heap.size, 0, none⟩ = some (.pointer (some ⟨V, 0, none⟩)) := by rw [cell_of_heap p0]; rfl
      have x1 : w7.cell? ⟨w.heap.size + 1, 0, none⟩ = some (.pointer (some ⟨S, 0, none⟩)) := by rw [cell_of_heap p1]; rfl
      clear k7
      have F7 : ∀ w', Kept [S] w7 w' → w'.cell? ⟨w.heap.size, 0, none⟩ = some (.pointer (some ⟨V, 0, none⟩)) ∧ w'.cell? ⟨w.heap.size + 1, 0, none⟩ = some (.pointer (some ⟨S, 0, none⟩)) ∧ w'.cell? ⟨V, 6, none⟩ = some (.float .f64 u') ∧ w'.cell? ⟨V, 4, none⟩ = some (.func g1 g2 g3) ∧ Kept [S] w7 w' := fun w' k =>
        ⟨k.cellSome x0 (by simp; omega), k.cellSome x1 (by simp; omega), k.cellSome v6 (by simp; omega), k.cellSome v4 (by simp; omega), k⟩
      go_region_held3 (fun w' => w'.cell? ⟨w.heap.size, 0, none⟩ = some (.pointer (some ⟨V, 0, none⟩)) ∧ w'.cell? ⟨w.heap.size + 1, 0, none⟩ = some (.pointer (some ⟨S, 0, none⟩)) ∧ w'.cell? ⟨V, 6, none⟩ = some (.float .f64 u') ∧ w'.cell? ⟨V, 4, none⟩ = some (.func g1 g2 g3) ∧ Kept [S] w7 w')
        (first | exact F7 _ (Kept.refl _ _).drew | exact F7 _ ((Kept.refl _ _).drew.trans (by assumption)))
        (first | (go_at_call 27; refine (at_any S now u' g1 g2 g3 _ (by exact hS3)).mono ?_; rintro r w8 ⟨rfl, hat, hk8⟩))
      all_goals
        go_wp2
        go_end0
        have K8 : Kept [V, Q, S] w w8 := (K3.weaken (by simp)).trans ((((Kept.refl [S] w7).drew).trans hk8).weaken (by simp))
        exact ⟨rfl, q', h', g1, g2, g3, b', u', hqh, hb', hu', Or.inr rfl, (hk8.block V (lt_of_block hV7) (by simp; omega)).trans hV7, (hk8.block Q (lt_of_block hQ3) (by simp; omega)).trans hQ3, hat, K8⟩
end Go.Proofs.Ybulkcoda
