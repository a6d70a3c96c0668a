import Derived.Test.YbulkcobyFmtW10
namespace Go.Proofs.YbulkcobyFmt
open Go.RowKit Go.Extern.Stop Go.Stop Go.Extern
attribute [local go_sem ↓] Go.wp_at_zero Go.wp_at_succ

theorem take_get {xs : List Value} {m j : Nat} {u : Value} (h : (xs.take m)[j]? = some u) : xs[j]? = some u := by
  rw [List.getElem?_take] at h
  split at h
  · exact h
  · cases h

set_option maxRecDepth 100000 in
set_option maxHeartbeats 4000000 in
theorem grid_last_ok (P S m n c L LB C GB GA GL lo v : Nat) (k pos : Int) (xs : List Value) (vB vA vL : Value) (w : World) (hc : w.cell? ⟨P, 8, none⟩ = some (.slice (some ⟨S, 0, none⟩) (m + 1) c)) (hf : w.frozen? ⟨P, 8, none⟩ = false) (hnm : n ≤ m) (hmc : m + 1 ≤ c) (hm : m + 1 ≤ 1024)
    (hl : xs.length = m + 1) (hrow : Row w S xs) (h1 : ∀ u ∈ xs, u.oneCell' = true) (hv : w.cell? ⟨S, m, none⟩ = some (.iface 26 (.float .f64 v))) (hL0 : w.cell? ⟨L, 0, none⟩ = some (.float .f64 lo)) (hgt : geB v lo = true) (hk : k - 1 = (n : Int)) (hk5 : k ≤ 5)
    (hC : One w C (.int .i64 0)) (hB : One w GB vB) (hA : One w GA vA) (hL : One w GL vL) (hne : [P, S, C, GB, GA, GL].Nodup) (hl0 : w.cell? ⟨LB, 0, none⟩ = some (.string ⟨#[120]⟩)) (hl1 : w.cell? ⟨LB, 1, none⟩ = some (.string ⟨#[121]⟩)) (hl2 : w.cell? ⟨LB, 2, none⟩ = some (.func (Fn.func 11) #[] #[.pointer (some ⟨L, 0, none⟩)])) :
    Calls Ybaf.prog 12 #[.pointer (some ⟨P, 0, none⟩), .string ⟨#[79, 80]⟩, .agg #[.int .i64 k, .pointer (some ⟨LB, 0, none⟩), .func (Fn.func 9) #[] #[.pointer (some ⟨C, 0, none⟩), .pointer (some ⟨GB, 0, none⟩), .pointer (some ⟨GA, 0, none⟩), .pointer (some ⟨GL, 0, none⟩)]], .int .i64 pos] w fun e w' => e = .returned .nilIface ∧ GridOk w w' P S n (m - n) C GB GA GL v ((xs.take m).drop (m - n)) xs := by
  have hP : P < w.heap.size := World.block_lt_of_cell? _ _ hc
  have hLB : LB < w.heap.size := World.block_lt_of_cell? _ _ hl0
  have hq := run_neq_ptr_some
  have Hk : Hid (k - 1 = (n : Int)) := hk
  have hkl : 1 ≤ k := by omega
  clear hk
  go_enter Ybaf.func12, Ybaf.ntmps12
  go_wp2_with fail
  have kb0 : Kept [] w (w.alloc (.cells #[.int .i64 k, .pointer (some ⟨LB, 0, none⟩), .func (Fn.func 9) #[] #[.pointer (some ⟨C, 0, none⟩), .pointer (some ⟨GB, 0, none⟩), .pointer (some ⟨GA, 0, none⟩), .pointer (some ⟨GL, 0, none⟩)]] 56)) := (Kept.refl [] w).alloc _
  have hbf0 : (w.alloc (.cells #[.int .i64 k, .pointer (some ⟨LB, 0, none⟩), .func (Fn.func 9) #[] #[.pointer (some ⟨C, 0, none⟩), .pointer (some ⟨GB, 0, none⟩), .pointer (some ⟨GA, 0, none⟩), .pointer (some ⟨GL, 0, none⟩)]] 56)).cell? ⟨w.heap.size, 2, none⟩ = some (.func (Fn.func 9) #[] #[.pointer (some ⟨C, 0, none⟩), .pointer (some ⟨GB, 0, none⟩), .pointer (some ⟨GA, 0, none⟩), .pointer (some ⟨GL, 0, none⟩)]) := by simp [go_sem]
  refine (literal_ok P S m c L lo v pos _ hm (kb0.cellSome hc (by simp)) (kb0.cellSome hv (by simp)) hmc ((kb0.frozen hP (by simp)).trans hf) (kb0.cellSome hL0 (by simp)) hgt).mono ?_
  rintro e w0 ⟨rfl, hk0, hc0, hf0⟩
  have hz00 := kb0.size
  have kb : Kept [P] w w0 := (kb0.weaken (by simp)).trans hk0
  have hne' := hne
  simp at hne'
  obtain ⟨⟨p1, p2, p3, p4, p5⟩, ⟨s1, s2, s3, s4⟩, ⟨c1, c2, c3⟩, ⟨b1, b2⟩, a1⟩ := hne'
  have hbf : w0.cell? ⟨w.heap.size, 2, none⟩ = some (.func (Fn.func 9) #[] #[.pointer (some ⟨C, 0, none⟩), .pointer (some ⟨GB, 0, none⟩), .pointer (some ⟨GA, 0, none⟩), .pointer (some ⟨GL, 0, none⟩)]) := hk0.cellSome hbf0 (by simp; omega)
  have hrow0 : Row w0 S xs := hrow.kept kb (by simp; omega)
  have hsz0 : w.heap.size < w0.heap.size := World.block_lt_of_cell? _ _ hbf
  clear kb0 hbf0 hk0 hv hL0
  go_wp2_with fail
  rw [Hk.out]
  refine (pop_ok P S m n c pos (xs.take m) _ hc0 hf0 hnm (by omega) (by omega) (by simp; omega) (fun j u hj => hrow0.cell j u (take_get hj)) (fun u hu => h1 u (List.mem_of_mem_take hu))).mono ?_
  rintro e w1 ⟨g, cap, rfl, hg, hrg, hk1, hc1, hf1⟩
  have hz := kb.size
  have hP1 : P < w1.heap.size := World.block_lt_of_cell? _ _ hc1
  have hC1 := (hC.kept kb (by simp; omega)).kept hk1 (by simp; omega)
  have hB1 := (hB.kept kb (by simp; omega)).kept hk1 (by simp; omega)
  have hA1 := (hA.kept kb (by simp; omega)).kept hk1 (by simp; omega)
  have hL1 := (hL.kept kb (by simp; omega)).kept hk1 (by simp; omega)
  have hS1 := hrow0.kept hk1 (by simp; omega)
  have hbf1 := hk1.cellSome hbf (by simp; omega)
  have K1 : Kept [P] w w1 := kb.trans hk1
  have lC : C < w.heap.size := World.block_lt_of_cell? _ _ hC.1
  have lB : GB < w.heap.size := World.block_lt_of_cell? _ _ hB.1
  have lA : GA < w.heap.size := World.block_lt_of_cell? _ _ hA.1
  have lL : GL < w.heap.size := World.block_lt_of_cell? _ _ hL.1
  have lS := hrow.lt
  have hgn : ¬ g ∈ [C, GB, GA, GL] := by simp; omega
  have hnd : [C, GB, GA, GL].Nodup := by simp; exact ⟨⟨c1, c2, c3⟩, ⟨b1, b2⟩, a1⟩
  have hld : ((xs.take m).drop (m - n)).length = n := by simp [hl]; omega
  have h1d : ∀ u ∈ (xs.take m).drop (m - n), u.oneCell' = true := fun u hu => h1 u (List.mem_of_mem_take (List.mem_of_mem_drop hu))
  have hkx : m - n < xs.length := by omega
  obtain ⟨i0, hi, hz0, hz1, hz2⟩ := info_parts info41
  clear hc hf hC hB hA hL hrow hbf kb hk1 hl0 hl1 hl2 hq hgt hrow0 hc0 hf0 Hk hkl hk5
  go_wp2_with fail
  go_region_law (first
    | (clear tokA; go_must (refine step_append_room (by rfl) (.tmp 50) (.tmp 59) 39 (by rfl) 41 i0 1 Ybaf.underlying39 hi hz1 S 0 (m - n) c (by rfl) ⟨w2.heap.size, 0, none⟩ 1 1 [mark] (by rfl) (by rfl) (news_one w2 mark) (by simp [Value.oneCell']) (by omega) (spare_one hS2 hkx _ mark) ?_; generalize hW : World.setCells (w2.alloc (.cells #[mark] 41)) S (0 + (m - n) * 1) [mark] = w3; obtain ⟨hc3, hf3, hk3, hr3⟩ := after_append (o := .cells #[mark] 41) (fun e => p1 e.symm) hc2 hf2 hS2 hkx mark hW.symm; clear hW))
    | (go_simp; go_at_call 9; refine (build_any P g n cap C GB GA GL v ((xs.take m).drop (m - n)) vB vA vL _ (by omega) hld h1d (by exact hrg) (by exact hC1) (by exact hB1) (by exact hA1) (by exact hL1) hnd hgn).mono ?_; rintro e w2 ⟨g2, cap2, rfl, hk2, hC2, hB2, hA2, hL2, hr2, hg2⟩; have hc2 := hk2.cellSome (p := ⟨P, 8, none⟩) hc1 (by simp; omega); have hS2 := Row.kept (w := w1.drew) (g := S) hS1 hk2 (by simp; omega); have hf2 := (hk2.frozen (p := ⟨P, 8, none⟩) (World.block_lt_of_cell? _ _ hc1) (by simp; omega)).trans hf1; have hP2 : P < w2.heap.size := World.block_lt_of_cell? _ _ hc2; have tokA : True := trivial))
  all_goals
    go_wp2
    go_ret
    exact ⟨rfl, grid_end (w1 := w1.drew) K1.drew hk2 hk3 (by simp) hC2 hB2 hA2 hL2 hr2 hg2 hr3 (Or.inl rfl) hS1.lt hP1 (by omega) hc3 hne⟩
end Go.Proofs.YbulkcobyFmt
