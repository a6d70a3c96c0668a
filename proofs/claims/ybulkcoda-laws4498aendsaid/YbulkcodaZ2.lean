import Derived.Test.YbulkcodaZ1
import Derived.Deep.RegionLawGrows
import Derived.Deep.RegionHeld3
namespace Go.Proofs.Ybulkcoda
open Go.RowKit

theorem ownsRow_new {w : World} {B : Nat} {e : TypeId} {size n : Nat} {v : Value} {xs : List Value} (h : w.ownsRow B e size v n xs) (hn : 0 < n) :
    ∃ (g cap : Nat) (cur : Array Value), v = .slice (some ⟨g, 0, none⟩) n cap ∧ B ≤ g ∧ w.heap[g]? = some (.cells cur e) ∧ (∀ (j : Nat) (u : Value), xs[j]? = some u → cur[j]? = some u) ∧ n ≤ cap ∧ cap * size ≤ cur.size := by
  obtain ⟨hl, ho | ⟨g, cap, cur, hv, hg, hh, hcap, hmax, hsz, htk⟩⟩ := h
  · omega
  · refine ⟨g, cap, cur, hv, hg, hh, fun j u hj => ?_, hcap, by omega⟩
    rw [← htk] at hj
    rw [List.getElem?_take] at hj
    split at hj
    · simpa using hj
    · cases hj

theorem info59 : (Yba.prog.info? 59).map (fun i => (i.zero, i.size, i.bytes)) = some (some (.agg #[.float .f64 0, .int .u64 0, .nilFunc]), 3, 24) := by kernel_rfl
theorem info4 : (Yba.prog.info? 4).map (fun i => (i.zero, i.size, i.bytes)) = some (some (.bool false), 1, 1) := by kernel_rfl

/-- 'append' to a nil slice, as one step. -/
theorem step_append_nil {ops : Array Oper} {o : Oper} {a : Act} {w : World} {K : Act → World → Prop} {Q : Exit → Act → World → Prop} {E : Prop}
    (hg : o.guard = none) (s x : Operand) (t : TypeId) (hop : o.op = Op.call { callee := Callee.builtin Builtin.append, args := #[s, x], argTypes := #[t, t] })
    (e : TypeId) (i : TypeInfo) (z : Value) (size bytes : Nat) (h1 : Yba.prog.underlying t = some (.slice e)) (h2 : Yba.prog.info? e = some i) (h3 : i.zero = some z) (h4 : i.size = size) (h5 : i.bytes = bytes) (h6 : z.cells.size = size) (h7 : 0 < size) (h8 : bytes ≤ 24)
    (hs : a.eval s = .slice none 0 0) (T c : Nat) (news : List Value) (hx : a.eval x = .slice (some ⟨T, 0, none⟩) 1 c) (hn : news.length = size) (hc : ∀ (j : Nat) (u : Value), news[j]? = some u → w.cell? ⟨T, 0 + j, none⟩ = some u) (h1c : ∀ u ∈ news, u.oneCell' = true)
    (hK : ∀ (g cap : Nat) (cur : Array Value) (w' : World), w.heap.size ≤ g → w'.heap[g]? = some (.cells cur e) → (∀ (j : Nat) (u : Value), news[j]? = some u → cur[j]? = some u) → 1 ≤ cap ∧ cap * size ≤ cur.size → Kept [] w w' → K (a.put o.dst (.slice (some ⟨g, 0, none⟩) 1 cap)) w') :
    if Region.wanted o (yielded ops a.tmps) = true then Oper.wp Yba.prog o a w K Q else E := by
  refine step_append_grows hg s x t hop e i z size bytes h1 h2 h3 h4 h5 h6 h7 none 0 0 [] hs (fun _ => ⟨rfl, rfl⟩) (by simp) (fun b hb => by cases hb) ⟨T, 0, none⟩ 1 c news hx (by omega) (fun j u hj => by rw [addr_add]; exact hc j u hj) h1c (by omega) (by unfold maxLen; omega) (by omega) ?_
  intro v' w' ho hgr
  obtain ⟨g, cap, cur, rfl, g1, g2, g3, g4⟩ := ownsRow_new ho (by omega)
  exact hK g cap cur w' g1 g2 (by simpa using g3) (by simpa using g4) ((Kept.refl [] w).grown hgr (fun k hk => by cases hk))

/-- The simulation's cells that the law looks at. -/
def Sim (w : World) (S now : Nat) (ev sc er : Value) : Prop := ∃ cur, w.heap[S]? = some (.cells cur 55) ∧ cur.size = 71 ∧ cur[0]? = some (.float .f64 now) ∧ cur[1]? = some ev ∧ cur[2]? = some sc ∧ cur[12]? = some er
theorem Sim.kept {ex : List Nat} {w w' : World} {S now : Nat} {ev sc er : Value} (h : Sim w S now ev sc er) (k : Kept ex w w') (he : ¬ S ∈ ex) : Sim w' S now ev sc er := by
  obtain ⟨cur, h1, h2⟩ := h
  exact ⟨cur, (k.block S (lt_of_block h1) he).trans h1, h2⟩
theorem Sim.cells {w : World} {S now : Nat} {ev sc er : Value} (h : Sim w S now ev sc er) : w.cell? ⟨S, 0, none⟩ = some (.float .f64 now) ∧ w.cell? ⟨S, 1, none⟩ = some ev ∧ w.cell? ⟨S, 2, none⟩ = some sc ∧ w.cell? ⟨S, 12, none⟩ = some er ∧
    w.frozen? ⟨S, 1, none⟩ = false ∧ w.frozen? ⟨S, 2, none⟩ = false ∧ w.frozen? ⟨S, 12, none⟩ = false ∧ S < w.heap.size := by
  obtain ⟨cur, h1, h2, h3, h4, h5, h6⟩ := h
  exact ⟨by rw [cell_of_heap h1]; exact h3, by rw [cell_of_heap h1]; exact h4, by rw [cell_of_heap h1]; exact h5, by rw [cell_of_heap h1]; exact h6, free_of_heap h1, free_of_heap h1, free_of_heap h1, lt_of_block h1⟩
theorem Sim.setEv {w : World} {S now : Nat} {ev sc er : Value} (h : Sim w S now ev sc er) (u : Value) : Sim (w.setCell ⟨S, 1, none⟩ u) S now u sc er := by
  obtain ⟨cur, h1, h2, h3, h4, h5, h6⟩ := h
  exact ⟨_, heap_setCell_same h1 u, by simpa using h2, by simpa using h3, by simp [h2], by simpa [Array.getElem?_setIfInBounds] using h5, by simpa [Array.getElem?_setIfInBounds] using h6⟩
theorem Sim.setSc {w : World} {S now : Nat} {ev sc er : Value} (h : Sim w S now ev sc er) (u : Value) : Sim (w.setCell ⟨S, 2, none⟩ u) S now ev u er := by
  obtain ⟨cur, h1, h2, h3, h4, h5, h6⟩ := h
  exact ⟨_, heap_setCell_same h1 u, by simpa using h2, by simpa using h3, by simpa [Array.getElem?_setIfInBounds] using h4, by simp [h2], by simpa [Array.getElem?_setIfInBounds] using h6⟩
theorem Sim.setEr {w : World} {S now : Nat} {ev sc er : Value} (h : Sim w S now ev sc er) (u : Value) : Sim (w.setCell ⟨S, 12, none⟩ u) S now ev sc u := by
  obtain ⟨cur, h1, h2, h3, h4, h5, h6⟩ := h
  exact ⟨_, heap_setCell_same h1 u, by simpa using h2, by simpa using h3, by simpa [Array.getElem?_setIfInBounds] using h4, by simpa [Array.getElem?_setIfInBounds] using h5, by simp [h2]⟩

theorem new_cells (w : World) (xs : Array Value) (t : TypeId) (T : Nat) (hT : T = w.heap.size) : ∀ (j : Nat) (u : Value), xs.toList[j]? = some u → (w.alloc (.cells xs t)).cell? ⟨T, 0 + j, none⟩ = some u := by
  intro j u hj
  subst hT
  rw [cell_of_heap (MapKept.heap_alloc w _).1, Nat.zero_add]
  simpa using hj

/-- A slice of one event. -/
def Ev (w : World) (ev : Value) (t : Nat) (fn : Value) : Prop := ∃ g cap cur, ev = .slice (some ⟨g, 0, none⟩) 1 cap ∧ w.heap[g]? = some (.cells cur 59) ∧ cur[0]? = some (.float .f64 t) ∧ cur[1]? = some (.int .u64 1) ∧ cur[2]? = some fn

set_option maxRecDepth 100000 in
set_option maxHeartbeats 1000000 in
theorem push_ev (S now t : Nat) (fi : Fn) (ff fc : Array Value) (sc er : Value) (w : World) (h : Sim w S now (.slice none 0 0) sc er) :
    Calls Yba.prog 31 #[.pointer (some ⟨S, 1, none⟩), .agg #[.float .f64 t, .int .u64 1, .func fi ff fc]] w fun e w' => e = .returned (.tuple #[]) ∧ ∃ ev, Sim w' S now ev sc er ∧ Ev w' ev t (.func fi ff fc) ∧ Kept [S] w w' := by
  have kb : Kept [] w (w.alloc (.cells #[.float .f64 t, .int .u64 1, .func fi ff fc] 59)) := (Kept.refl [] w).alloc _
  obtain ⟨c0, c1, c2, c3, f1, f2, f3, lS⟩ := h.cells
  obtain ⟨i0, hi, hz0, hz1, hz2⟩ := info_parts info59
  go_enter Yba.func31, Yba.ntmps31
  go_wp2
  go_region_law (refine step_append_nil (by rfl) (.tmp 10) (.tmp 12) 34 (by rfl) 59 i0 _ 3 24 Yba.underlying34 hi hz0 hz1 hz2 (by rfl) (by omega) (by omega) (by rfl) (w.heap.size + 1) 1 [.float .f64 t, .int .u64 1, .func fi ff fc] (by rfl) (by rfl) (new_cells _ #[.float .f64 t, .int .u64 1, .func fi ff fc] _ _ (World.size_alloc _ _).symm) (by simp [Value.oneCell']) ?_; intro g cap cur w2 hg hh hcur _ hk2; have lS2 : S < w2.heap.size := Nat.lt_of_lt_of_le lS (Nat.le_trans kb.size (Nat.le_trans (by simp) hk2.size)); have S2 := (h.kept (kb.alloc (.cells #[.float .f64 t, .int .u64 1, .func fi ff fc] 59)) (by simp)).kept (w := ((w.alloc (.cells #[.float .f64 t, .int .u64 1, .func fi ff fc] 59)).alloc (.cells #[.float .f64 t, .int .u64 1, .func fi ff fc] 59))) (w' := w2) ⟨hk2.os, hk2.tape, hk2.output, hk2.size, hk2.block⟩ (by simp); obtain ⟨d0, d1, d2, d3, x1, x2, x3, lS3⟩ := S2.cells)
  all_goals
    go_wp2
    refine wp_loop_rounds 1 ?_
    rw [rounds_succ]
    go_wp2
    go_end0
    have lg : ¬ S = g := by simp at hg; omega
    have kk : Kept [S] w w2 := (((kb.alloc (.cells #[.float .f64 t, .int .u64 1, .func fi ff fc] 59)).drew).trans hk2).weaken (by simp)
    refine ⟨rfl, _, S2.setEv _, ⟨g, cap, cur, rfl, (Below.heap_setCell _ _ _ _ (fun e => lg e.symm)).trans hh, hcur 0 _ rfl, hcur 1 _ rfl, hcur 2 _ rfl⟩, kk.setCell (p := ⟨S, 1, none⟩) (Or.inl (by simp)) _⟩
end Go.Proofs.Ybulkcoda
