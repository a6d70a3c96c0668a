import Derived.Test.YbulkcodaZ5
namespace Go.Proofs.Ybulkcoda
open Go.RowKit

/-- What the ended service's done leaves: the log, and whether the server was serving. -/
def Logged (w w' : World) (L A : Nat) (s : Bool) : Prop := ∃ lv av, w'.heap[L]? = some (.cells #[lv] 24) ∧ Sl1 w.heap.size w' 3 lv (.int .i64 (-1)) ∧ w'.heap[A]? = some (.cells #[av] 25) ∧ Sl1 w.heap.size w' 4 av (.bool s)

set_option maxRecDepth 100000 in
set_option maxHeartbeats 2000000 in
/-- endService with nothing waiting. -/
theorem ends_idle (L A X V n c : Nat) (qa : Option Addr) (S : Value) (e : Value) (b u : Nat) (w : World) (hL : w.heap[L]? = some (.cells #[.slice none 0 0] 24)) (hA : w.heap[A]? = some (.cells #[.slice none 0 0] 25))
    (hX : w.heap[X]? = some (.cells #[.pointer (some ⟨V, 0, none⟩)] 26))
    (hV : w.heap[V]? = some (.cells (svC true (.slice qa n c) (n : Int) (.func (Fn.func 9) #[] #[.pointer (some ⟨L, 0, none⟩), .pointer (some ⟨A, 0, none⟩), .pointer (some ⟨X, 0, none⟩)]) e b u) 29)) :
    Calls Yba.prog 11 #[.pointer (some ⟨V, 0, none⟩), S] w fun r w' => r = .returned (.tuple #[]) ∧ w'.heap[V]? = some (.cells (svC false (.slice qa n c) (n : Int) .nilFunc e b u) 29) ∧ Logged w w' L A false ∧ Kept [V, L, A] w w' := by
  obtain ⟨v0, v1, v2, v3, v4, v5, v6⟩ := svCells hV
  obtain ⟨f0, f1, f2, f3, f4, f5, f6⟩ := svFree hV
  go_enter Yba.func11, Yba.ntmps11
  go_wp2
  obtain ⟨w1, hw1⟩ : ∃ w1, w1 = (w.setCell ⟨V, 3, none⟩ .nilFunc).setCell ⟨V, 0, none⟩ (.bool false) := ⟨_, rfl⟩
  rw [← hw1]
  have k1 : Kept [V] w w1 := by rw [hw1]; exact ((Kept.refl [V] w).setCell (p := ⟨V, 3, none⟩) (Or.inl (by simp)) _).setCell (p := ⟨V, 0, none⟩) (Or.inl (by simp)) _
  have hV1 : w1.heap[V]? = some (.cells (svC false (.slice qa n c) (n : Int) .nilFunc e b u) 29) := by rw [hw1]; exact heap_setCell_same (heap_setCell_same hV _) _
  have nLV : ¬ L = V := by intro e; subst e; rw [hL] at hV; simp at hV
  have nAV : ¬ A = V := by intro e; subst e; rw [hA] at hV; simp at hV
  have nXV : ¬ X = V := by intro e; subst e; rw [hX] at hV; simp at hV
  have hL1 := (k1.block _ (lt_of_block hL) (by simp; omega)).trans hL
  have hA1 := (k1.block _ (lt_of_block hA) (by simp; omega)).trans hA
  have hX1 := (k1.block _ (lt_of_block hX) (by simp; omega)).trans hX
  clear hw1 v0 v1 v2 v3 v4 v5 v6 f0 f1 f2 f3 f4 f5 f6
  obtain ⟨v0, v1, v2, v3, v4, v5, v6⟩ := svCells hV1
  go_quiet (fail)
  go_wp2_with fail
  refine (done_any L A X V false (.slice qa n c) (n : Int) .nilFunc e b u _ (by exact hL1) (by exact hA1) (by exact hX1) (by exact hV1)).mono ?_
  rintro r w2 ⟨rfl, lv, av, g1, g2, g3, g4, hk⟩
  go_wp2
  go_end0
  have k2 : Kept [V, L, A] w w2 := (k1.weaken (by simp)).trans ((((Kept.refl [L, A] w1).drewN nq).trans hk).weaken (by simp))
  have hz := k1.size
  refine ⟨rfl, (hk.block V (lt_of_block hV1) (by simp; omega)).trans hV1, ⟨lv, av, g1, ?_, g3, ?_⟩, k2⟩
  · obtain ⟨g, cap, cur, a1, a2, a3⟩ := g2; exact ⟨g, cap, cur, a1, Nat.le_trans hz a2, a3⟩
  · obtain ⟨g, cap, cur, a1, a2, a3⟩ := g4; exact ⟨g, cap, cur, a1, Nat.le_trans hz a2, a3⟩

set_option maxRecDepth 100000 in
set_option maxHeartbeats 2000000 in
/-- endService with a job waiting. -/
theorem ends_busy (L A X V S Q n c h D now b u : Nat) (fi : Fn) (ff fc : Array Value) (cur : Array Value) (e : Value) (w : World) (hn : n ≤ 1024) (hh : h < n) (he : e = .nilFunc ∨ ∃ g1 g2 g3, e = .func g1 g2 g3)
    (hL : w.heap[L]? = some (.cells #[.slice none 0 0] 24)) (hA : w.heap[A]? = some (.cells #[.slice none 0 0] 25)) (hX : w.heap[X]? = some (.cells #[.pointer (some ⟨V, 0, none⟩)] 26))
    (hV : w.heap[V]? = some (.cells (svC true (.slice (some ⟨Q, 0, none⟩) n c) (h : Int) (.func (Fn.func 9) #[] #[.pointer (some ⟨L, 0, none⟩), .pointer (some ⟨A, 0, none⟩), .pointer (some ⟨X, 0, none⟩)]) e b u) 29))
    (hQ : Job w Q h D fi ff fc cur) (hS : Sim w S now (.slice none 0 0) (.int .u64 0) .nilIface) :
    Calls Yba.prog 11 #[.pointer (some ⟨V, 0, none⟩), .pointer (some ⟨S, 0, none⟩)] w fun r w' => r = .returned (.tuple #[]) ∧ ∃ wm, Served w wm V S Q n c h D now b (.func fi ff fc) cur e ∧ Logged wm w' L A true ∧ Kept [L, A] wm w' := by
  obtain ⟨v0, v1, v2, v3, v4, v5, v6⟩ := svCells hV
  obtain ⟨f0, f1, f2, f3, f4, f5, f6⟩ := svFree hV
  go_enter Yba.func11, Yba.ntmps11
  go_wp2
  obtain ⟨w1, hw1⟩ : ∃ w1, w1 = (w.setCell ⟨V, 3, none⟩ .nilFunc).setCell ⟨V, 0, none⟩ (.bool false) := ⟨_, rfl⟩
  rw [← hw1]
  have k1 : Kept [V] w w1 := by rw [hw1]; exact ((Kept.refl [V] w).setCell (p := ⟨V, 3, none⟩) (Or.inl (by simp)) _).setCell (p := ⟨V, 0, none⟩) (Or.inl (by simp)) _
  have hV1 : w1.heap[V]? = some (.cells (svC false (.slice (some ⟨Q, 0, none⟩) n c) (h : Int) .nilFunc e b u) 29) := by rw [hw1]; exact heap_setCell_same (heap_setCell_same hV _) _
  have nLV : ¬ L = V := by intro e; subst e; rw [hL] at hV; simp at hV
  have nAV : ¬ A = V := by intro e; subst e; rw [hA] at hV; simp at hV
  have nXV : ¬ X = V := by intro e; subst e; rw [hX] at hV; simp at hV
  have nQV : ¬ Q = V := by intro e; subst e; have := hQ.1; rw [hV] at this; simp at this
  have nSV : ¬ S = V := by intro e; subst e; obtain ⟨cs, hc, _⟩ := hS; rw [hV] at hc; simp at hc
  have nLQ : ¬ L = Q := by intro e; subst e; have := hQ.1; rw [hL] at this; simp at this
  have nAQ : ¬ A = Q := by intro e; subst e; have := hQ.1; rw [hA] at this; simp at this
  have nXQ : ¬ X = Q := by intro e; subst e; have := hQ.1; rw [hX] at this; simp at this
  have nLS : ¬ L = S := by intro e; subst e; obtain ⟨cs, hc, _⟩ := hS; rw [hL] at hc; simp at hc
  have nAS : ¬ A = S := by intro e; subst e; obtain ⟨cs, hc, _⟩ := hS; rw [hA] at hc; simp at hc
  have nXS : ¬ X = S := by intro e; subst e; obtain ⟨cs, hc, _⟩ := hS; rw [hX] at hc; simp at hc
  have hL1 := (k1.block _ (lt_of_block hL) (by simp; omega)).trans hL
  have hA1 := (k1.block _ (lt_of_block hA) (by simp; omega)).trans hA
  have hX1 := (k1.block _ (lt_of_block hX) (by simp; omega)).trans hX
  have hQ1 : Job w1 Q h D fi ff fc cur := ⟨(k1.block _ (lt_of_block hQ.1) (by simp; omega)).trans hQ.1, hQ.2⟩
  have hS1 := hS.kept k1 (by simp; omega)
  clear hw1 v0 v1 v2 v3 v4 v5 v6 f0 f1 f2 f3 f4 f5 f6
  obtain ⟨v0, v1, v2, v3, v4, v5, v6⟩ := svCells hV1
  have b2 : (h : Int) < (n : Int) := by omega
  go_quiet (fail)
  go_wp2_with fail
  refine (serve_any V S Q n c h D now b u fi ff fc cur .nilFunc e _ hn hh he (by exact hV1) (by exact hQ1) (by exact hS1)).mono ?_
  rintro r w2 ⟨rfl, q', h', g1, g2, g3, b', u', s1, s2, s3, s4, s5, s6, s7, s8⟩
  have hL2 := (s8.block _ (lt_of_block hL1) (by simp; omega)).trans hL1
  have hA2 := (s8.block _ (lt_of_block hA1) (by simp; omega)).trans hA1
  have hX2 := (s8.block _ (lt_of_block hX1) (by simp; omega)).trans hX1
  clear hL1 hA1 hX1 hQ1 hS1 v0 v1 v2 v3 v4 v5 v6
  go_wp2_with fail
  refine (done_any L A X V true q' h' (.func fi ff fc) (.func g1 g2 g3) b' u' _ hL2 hA2 hX2 s5).mono ?_
  rintro r w3 ⟨rfl, lv, av, t1, t2, t3, t4, hk⟩
  go_wp2
  go_end0
  exact ⟨rfl, w2, ⟨q', h', g1, g2, g3, b', u', s1, s2, s3, s4, s5, s6, s7, (k1.weaken (by simp)).trans ((((Kept.refl [] w1).drewN nq).weaken (by simp)).trans s8)⟩, ⟨lv, av, t1, t2, t3, t4⟩, hk⟩
end Go.Proofs.Ybulkcoda
