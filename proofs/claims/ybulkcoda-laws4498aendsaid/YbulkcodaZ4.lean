import Derived.Test.YbulkcodaZ3
namespace Go.Proofs.Ybulkcoda
open Go.RowKit

set_option maxRecDepth 100000 in
/-- 'append' to a nil slice, in a region that keeps its order. -/
theorem wpList_append_nil {w : World} {ops : Array Oper} {rest : List Oper} {o : Oper} {a : Act} {Q : Exit → Act → World → Prop} (hg : o.guard = none) (s x : Operand) (t : TypeId)
    (hop : o.op = Op.call { callee := Callee.builtin Builtin.append, args := #[s, x], argTypes := #[t, t] })
    (e : TypeId) (i : TypeInfo) (z : Value) (bytes : Nat) (h1 : Yba.prog.underlying t = some (.slice e)) (h2 : Yba.prog.info? e = some i) (h3 : i.zero = some z) (h4 : i.size = 1) (h5 : i.bytes = bytes) (h6 : z.cells.size = 1) (hby : bytes ≤ 24)
    (hs : a.eval s = .slice none 0 0) (T c : Nat) (u : Value) (hx : a.eval x = .slice (some ⟨T, 0, none⟩) 1 c) (hc : w.cell? ⟨T, 0, none⟩ = some u) (h1c : u.oneCell' = true)
    (h : ∀ (g cap : Nat) (cur : Array Value) (w' : World), w.heap.size ≤ g → w'.heap[g]? = some (.cells cur e) → cur[0]? = some u → 0 < cap → cap ≤ cur.size → Kept [] w w' → wpList Yba.prog ops Q rest (a.put o.dst (.slice (some ⟨g, 0, none⟩) 1 cap)) w') : wpList Yba.prog ops Q (o :: rest) a w := by
  have hown : w.ownsRow w.heap.size e 1 (.slice none 0 0) 0 [] := ⟨rfl, Or.inl ⟨rfl, rfl⟩⟩
  refine wpList_append_own w hg s x t hop w.heap.size e i z 1 bytes h1 h2 h3 h4 h5 h6 (by omega) _ _ _ hs hown ⟨T, 0, none⟩ 1 c [u] hx rfl ?_ (by simpa using h1c) (by unfold maxLen; omega) (by omega) (Nat.le_refl _) ?_
  · intro j u' hj
    cases j with
    | zero => simp at hj; subst hj; rw [addr_add]; exact hc
    | succ j => simp at hj
  · intro v' w' ho hgr _
    obtain ⟨g, cap, cur, rfl, g1, g2, g3, g4, g5⟩ := ownsRow_new ho (by omega)
    exact h g cap cur w' g1 g2 (g3 0 u (by simp)) (by omega) (by omega) ((Kept.refl [] w).grown hgr (fun k hk => by simp [Value.ownBlock] at hk))

/-- The server's cells. -/
def svC (s : Bool) (q : Value) (h : Int) (d e : Value) (b u : Nat) : Array Value := #[.bool s, q, .int .i64 h, d, e, .float .f64 b, .float .f64 u]

/-- A slice of one item. -/
def Sl1 (B : Nat) (w : World) (t : TypeId) (v x : Value) : Prop := ∃ g cap cur, v = .slice (some ⟨g, 0, none⟩) 1 cap ∧ B ≤ g ∧ w.heap[g]? = some (.cells cur t) ∧ cur[0]? = some x ∧ 0 < cap ∧ cap ≤ cur.size
theorem Sl1.kept {ex : List Nat} {B : Nat} {w w' : World} {t : TypeId} {v x : Value} (h : Sl1 B w t v x) (k : Kept ex w w') (he : ∀ i, i ∈ ex → i < B) : Sl1 B w' t v x := by
  obtain ⟨g, cap, cur, h1, h2, h3, h4⟩ := h
  refine ⟨g, cap, cur, h1, h2, (k.block g (lt_of_block h3) (fun hm => ?_)).trans h3, h4⟩
  have := he g hm
  omega
theorem Sl1.sl {B : Nat} {w : World} {t : TypeId} {v x : Value} (h : Sl1 B w t v x) : Sl B t w v [x] := by
  obtain ⟨g, cap, cur, h1, h2, h3, h4, h5, h6⟩ := h
  refine Or.inr ⟨g, 0, cap, cur, h1, h2, h3, by omega, h5, fun j u hj => ?_⟩
  cases j with
  | zero => simp at hj; subst hj; simpa using h4
  | succ j => simp at hj

set_option maxRecDepth 100000 in
set_option maxHeartbeats 1000000 in
/-- The closure that the law lays as the service's done. -/
theorem done_any (L A X V : Nat) (s : Bool) (q : Value) (h : Int) (d e : Value) (b u : Nat) (w : World) (hL : w.heap[L]? = some (.cells #[.slice none 0 0] 24)) (hA : w.heap[A]? = some (.cells #[.slice none 0 0] 25))
    (hX : w.heap[X]? = some (.cells #[.pointer (some ⟨V, 0, none⟩)] 26)) (hV : w.heap[V]? = some (.cells (svC s q h d e b u) 29)) :
    Calls Yba.prog 9 #[.pointer (some ⟨L, 0, none⟩), .pointer (some ⟨A, 0, none⟩), .pointer (some ⟨X, 0, none⟩)] w fun e w' => e = .returned (.tuple #[]) ∧
      ∃ lv av, w'.heap[L]? = some (.cells #[lv] 24) ∧ Sl1 w.heap.size w' 3 lv (.int .i64 (-1)) ∧ w'.heap[A]? = some (.cells #[av] 25) ∧ Sl1 w.heap.size w' 4 av (.bool s) ∧ Kept [L, A] w w' := by
  have c1 : w.cell? ⟨L, 0, none⟩ = some (.slice none 0 0) := by rw [cell_of_heap hL]; rfl
  have lL := lt_of_block hL
  obtain ⟨i0, hi, hz0, hz1, hz2⟩ := info_parts info3
  obtain ⟨i1, ki, kz0, kz1, kz2⟩ := info_parts info4
  have hcv : (w.alloc (.cells #[.int .i64 (-1)] 3)).cell? ⟨w.heap.size, 0, none⟩ = some (.int .i64 (-1)) := by simp [go_sem]
  go_enter Yba.func9, Yba.ntmps9
  go_wp2_with (at_builtin; refine wpList_append_nil rfl _ _ 24 rfl 3 i0 (.int .i64 0) 8 Yba.underlying24 hi hz0 hz1 hz2 rfl (by omega) rfl w.heap.size 1 (.int .i64 (-1)) rfl hcv rfl ?_)
  intro g cap cur w1 hg hh h0 hc0 hc1 hk1
  have kb : Kept [] w w1 := ((Kept.refl [] w).alloc _).trans hk1
  have k1 : ∀ v, Kept [L] w (w1.setCell ⟨L, 0, none⟩ v) := fun v => (kb.weaken (by simp)).setCell (p := ⟨L, 0, none⟩) (Or.inl (by simp)) _
  have hL1 := (kb.block L lL (by simp)).trans hL
  have d1 : w1.cell? ⟨L, 0, none⟩ = some (.slice none 0 0) := by rw [cell_of_heap hL1]; rfl
  have f1 : w1.frozen? ⟨L, 0, none⟩ = false := free_of_heap hL1
  have nLA : ¬ L = A := by intro e; subst e; rw [hL] at hA; simp at hA
  have nLX : ¬ L = X := by intro e; subst e; rw [hL] at hX; simp at hX
  have nLV : ¬ L = V := by intro e; subst e; rw [hL] at hV; simp at hV
  obtain ⟨w2, hw2⟩ : ∃ w2, w2 = w1.setCell ⟨L, 0, none⟩ (.slice (some ⟨g, 0, none⟩) 1 cap) := ⟨_, rfl⟩
  have k2 : Kept [L] w w2 := by rw [hw2]; exact k1 _
  have hA2 := (k2.block A (lt_of_block hA) (by simp; omega)).trans hA
  have hX2 := (k2.block X (lt_of_block hX) (by simp; omega)).trans hX
  have hV2 := (k2.block V (lt_of_block hV) (by simp; omega)).trans hV
  have hL2 : w2.heap[L]? = some (.cells #[.slice (some ⟨g, 0, none⟩) 1 cap] 24) := by rw [hw2]; exact heap_setCell_same hL1 _
  have hg2 : w2.heap[g]? = some (.cells cur 3) := by rw [hw2]; exact (Below.heap_setCell _ _ _ _ (by simp; omega)).trans hh
  have e1 : w2.cell? ⟨A, 0, none⟩ = some (.slice none 0 0) := by rw [cell_of_heap hA2]; rfl
  have e2 : w2.cell? ⟨X, 0, none⟩ = some (.pointer (some ⟨V, 0, none⟩)) := by rw [cell_of_heap hX2]; rfl
  have e3 : w2.cell? ⟨V, 0, none⟩ = some (.bool s) := by rw [cell_of_heap hV2]; rfl
  have e4 : w2.frozen? ⟨A, 0, none⟩ = false := free_of_heap hA2
  have lA2 := lt_of_block hA2
  have lX2 := lt_of_block hX2
  have lV2 := lt_of_block hV2
  clear hk1 hL hA hX hV c1 hcv kb k1 hL1 hh
  go_wp2
  rw [← hw2]
  clear hw2 d1 f1
  go_region_law (refine step_append_nil (by rfl) (.tmp 6) (.tmp 11) 25 (by rfl) 4 i1 _ 1 1 Yba.underlying25 ki kz0 kz1 kz2 (by rfl) (by omega) (by omega) (by rfl) w2.heap.size 1 [.bool s] (by rfl) (by rfl) (new_cells _ #[.bool s] _ _ rfl) (by simp [Value.oneCell']) ?_; intro g' cap' cur' w3 hg' hh' hcur' hcap' hk3; have k3 : Kept [] w2 w3 := ((Kept.refl [] w2).alloc _).drew.trans hk3; have hA3 := (k3.block A lA2 (by simp)).trans hA2; have z1 : w3.cell? ⟨A, 0, none⟩ = some (.slice none 0 0) := (cell_of_heap hA3).trans rfl; have z2 : w3.frozen? ⟨A, 0, none⟩ = false := free_of_heap hA3)
  all_goals
    go_wp2
    go_end0
    have hs2 := k2.size
    refine ⟨rfl, .slice (some ⟨g, 0, none⟩) 1 cap, .slice (some ⟨g', 0, none⟩) 1 cap', ?_, ⟨g, cap, cur, rfl, by omega, ?_, h0, hc0, hc1⟩, heap_setCell_same hA3 _, ⟨g', cap', cur', rfl, by simp at hg'; omega, ?_, hcur' 0 _ rfl, hcap'.1, by omega⟩, ?_⟩
    · exact (Below.heap_setCell _ _ _ _ (by simpa using nLA)).trans ((k3.block L (lt_of_block hL2) (by simp)).trans hL2)
    · exact (Below.heap_setCell _ _ _ _ (by simp; intro e; subst e; rw [hA2] at hg2; simp at hg2)).trans ((k3.block g (lt_of_block hg2) (by simp)).trans hg2)
    · exact (Below.heap_setCell _ _ _ _ (by simp at hg' ⊢; omega)).trans hh'
    · exact ((k2.weaken (by simp)).trans (k3.weaken (by simp))).setCell (p := ⟨A, 0, none⟩) (Or.inl (by simp)) _

set_option maxRecDepth 100000 in
set_option maxHeartbeats 1000000 in
/-- A job's closure: it writes its number into the log. -/
theorem job_any (B L K : Nat) (i : Int) (v : Value) (xs : List Value) (w : World) (hL : w.heap[L]? = some (.cells #[v] 24)) (hK : w.heap[K]? = some (.cells #[.int .i64 i] 3)) (hs : Sl B 3 w v xs) (hl : xs.length ≤ 2000) (hB : B ≤ L) :
    Calls Yba.prog 8 #[.pointer (some ⟨L, 0, none⟩), .pointer (some ⟨K, 0, none⟩)] w fun e w' => e = .returned (.tuple #[]) ∧
      ∃ v', w'.heap[L]? = some (.cells #[v'] 24) ∧ Sl B 3 w' v' (xs ++ [.int .i64 i]) ∧ Chg B [3, 24] w w' := by
  have c1 : w.cell? ⟨L, 0, none⟩ = some v := by rw [cell_of_heap hL]; rfl
  have c2 : w.cell? ⟨K, 0, none⟩ = some (.int .i64 i) := by rw [cell_of_heap hK]; rfl
  have lL := lt_of_block hL
  obtain ⟨i0, hi, hz0, hz1, hz2⟩ := info_parts info3
  have hcv : (w.alloc (.cells #[.int .i64 i] 3)).cell? ⟨w.heap.size, 0, none⟩ = some (.int .i64 i) := by simp [go_sem]
  have hs1 : Sl B 3 (w.alloc (.cells #[.int .i64 i] 3)) v xs := hs.chg (Chg.of_kept (B := B) (ts := []) ((Kept.refl [] w).alloc _)) (by simp)
  go_enter Yba.func8, Yba.ntmps8
  go_wp2_with (at_builtin; refine wpList_append_sl rfl _ _ 24 rfl 3 i0 (.int .i64 0) 8 Yba.underlying24 hi hz0 hz1 hz2 rfl (by omega) B _ xs rfl hs1 hl (by simp; omega) w.heap.size 1 (.int .i64 i) rfl hcv rfl ?_)
  intro v' w2 hs2 hcg2
  obtain ⟨na, nl, nc, rfl⟩ := hs2.form
  have hL2 : w2.heap[L]? = some (.cells #[v] 24) := hcg2.block ((Below.heap_alloc _ _ _ lL).trans hL) (by simp)
  have d1 : w2.cell? ⟨L, 0, none⟩ = some v := by rw [cell_of_heap hL2]; rfl
  have f1 : w2.frozen? ⟨L, 0, none⟩ = false := free_of_heap hL2
  clear c1 c2 hcv hs1 hs hL hK
  go_wp2
  go_end0
  refine ⟨rfl, _, heap_setCell_same hL2 _, ?_, ((((Chg.refl B _ w).alloc _).trans (hcg2.weaken (by simp)))).setCell (p := ⟨L, 0, none⟩) hB hL2 (by simp) _⟩
  exact hs2.chg ((Chg.refl B [24] w2).setCell (p := ⟨L, 0, none⟩) hB hL2 (by simp) _) (by simp)

set_option maxRecDepth 100000 in
set_option maxHeartbeats 1000000 in
/-- The closure that the law lays as the server's end. -/
theorem end_any (B L : Nat) (v : Value) (xs : List Value) (w : World) (hL : w.heap[L]? = some (.cells #[v] 24)) (hs : Sl B 3 w v xs) (hl : xs.length ≤ 2000) (hB : B ≤ L) :
    Calls Yba.prog 10 #[.pointer (some ⟨L, 0, none⟩)] w fun e w' => e = .returned (.tuple #[]) ∧
      ∃ v', w'.heap[L]? = some (.cells #[v'] 24) ∧ Sl B 3 w' v' (xs ++ [.int .i64 (-2)]) ∧ Chg B [3, 24] w w' := by
  have c1 : w.cell? ⟨L, 0, none⟩ = some v := by rw [cell_of_heap hL]; rfl
  have lL := lt_of_block hL
  obtain ⟨i0, hi, hz0, hz1, hz2⟩ := info_parts info3
  have hcv : (w.alloc (.cells #[.int .i64 (-2)] 3)).cell? ⟨w.heap.size, 0, none⟩ = some (.int .i64 (-2)) := by simp [go_sem]
  have hs1 : Sl B 3 (w.alloc (.cells #[.int .i64 (-2)] 3)) v xs := hs.chg (Chg.of_kept (B := B) (ts := []) ((Kept.refl [] w).alloc _)) (by simp)
  go_enter Yba.func10, Yba.ntmps10
  go_wp2_with (at_builtin; refine wpList_append_sl rfl _ _ 24 rfl 3 i0 (.int .i64 0) 8 Yba.underlying24 hi hz0 hz1 hz2 rfl (by omega) B _ xs rfl hs1 hl (by simp; omega) w.heap.size 1 (.int .i64 (-2)) rfl hcv rfl ?_)
  intro v' w2 hs2 hcg2
  obtain ⟨na, nl, nc, rfl⟩ := hs2.form
  have hL2 : w2.heap[L]? = some (.cells #[v] 24) := hcg2.block ((Below.heap_alloc _ _ _ lL).trans hL) (by simp)
  have d1 : w2.cell? ⟨L, 0, none⟩ = some v := by rw [cell_of_heap hL2]; rfl
  have f1 : w2.frozen? ⟨L, 0, none⟩ = false := free_of_heap hL2
  clear c1 hcv hs1 hs hL
  go_wp2
  go_end0
  refine ⟨rfl, _, heap_setCell_same hL2 _, ?_, ((((Chg.refl B _ w).alloc _).trans (hcg2.weaken (by simp)))).setCell (p := ⟨L, 0, none⟩) hB hL2 (by simp) _⟩
  exact hs2.chg ((Chg.refl B [24] w2).setCell (p := ⟨L, 0, none⟩) hB hL2 (by simp) _) (by simp)

theorem eq_nil_nil (w : World) : (binOp .eql 1 .nilFunc .nilFunc).run Yba.prog w = .ok (.bool true) w := by kernel_rfl
theorem eq_func_nil (a : Fn) (b c : Array Value) (w : World) : (binOp .eql 1 (.func a b c) .nilFunc).run Yba.prog w = .ok (.bool false) w := by kernel_rfl
theorem ne_nil_nil (w : World) : (binOp .neq 1 .nilFunc .nilFunc).run Yba.prog w = .ok (.bool false) w := by kernel_rfl
theorem ne_func_nil (a : Fn) (b c : Array Value) (w : World) : (binOp .neq 1 (.func a b c) .nilFunc).run Yba.prog w = .ok (.bool true) w := by kernel_rfl
end Go.Proofs.Ybulkcoda
