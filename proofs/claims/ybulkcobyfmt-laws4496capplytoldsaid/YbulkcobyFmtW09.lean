import Derived.Test.YbulkcobyFmtW08
namespace Go.Proofs.YbulkcobyFmt
open Go.RowKit Go.Extern.Stop Go.Stop Go.Extern
attribute [local go_sem ↓] Go.wp_at_zero Go.wp_at_succ

theorem olds_row {w : World} {S : Nat} {xs : List Value} (h : Row w S xs) (o : Obj) : ∀ b : Addr, some (⟨S, 0, none⟩ : Addr) = some b → ∀ j u, xs[j]? = some u → (w.alloc o).cell? (b.add j) = some u := by
  intro b hb j u hj
  cases hb
  rw [addr_add]
  simpa using (h.kept ((Kept.refl [] w).alloc o) (by simp)).cell j u hj
theorem after_grow {w w3 : World} {P k : Nat} {v v' : Value} {ys : List Value} {o : Obj} (hc : w.cell? ⟨P, 8, none⟩ = some v) (hf : w.frozen? ⟨P, 8, none⟩ = false)
    (hown : w3.ownsRow (w.alloc o).heap.size 41 1 v' (k + 1) ys) (hgrow : (w.alloc o).grownBy w3 none) :
    ∃ g3 cap3, v' = .slice (some ⟨g3, 0, none⟩) (k + 1) cap3 ∧ k + 1 ≤ cap3 ∧ w.heap.size ≤ g3 ∧ Row w3 g3 ys ∧ w3.cell? ⟨P, 8, none⟩ = some v ∧ w3.frozen? ⟨P, 8, none⟩ = false ∧ Kept [] w w3 := by
  have hk : Kept [] w w3 := ((Kept.refl [] w).alloc o).grown hgrow (by intro k h; cases h)
  obtain ⟨hlen, h | ⟨g, cap, cur, hv, hg, hh, hcap, hmax, hsz, htk⟩⟩ := hown
  · omega
  · refine ⟨g, cap, hv, hcap, by simp at hg; omega, ⟨cur, hh, by omega, ?_⟩, hk.cellSome hc (by simp), (hk.frozen (World.block_lt_of_cell? _ _ hc) (by simp)).trans hf, hk⟩
    rw [hlen]; simpa using htk

set_option maxRecDepth 100000 in
set_option maxHeartbeats 1000000 in
theorem grid_grow (P S m n c C GB GA GL : Nat) (pos : Int) (xs : List Value) (vB vA vL : Value) (w : World) (hc : w.cell? ⟨P, 8, none⟩ = some (.slice (some ⟨S, 0, none⟩) m c)) (hf : w.frozen? ⟨P, 8, none⟩ = false) (hn0 : n ≤ 0) (hnm : n ≤ m) (hcm : c ≤ m) (hmc : m ≤ c) (hm : m ≤ 1024)
    (hl : xs.length = m) (hrow : Row w S xs) (h1 : ∀ u ∈ xs, u.oneCell' = true)
    (hC : One w C (.int .i64 0)) (hB : One w GB vB) (hA : One w GA vA) (hL : One w GL vL) (hne : [P, S, C, GB, GA, GL].Nodup) :
    Calls Ybaf.prog 12 #[.pointer (some ⟨P, 0, none⟩), .string ⟨#[79, 80]⟩, .agg #[.int .i64 (n : Int), .pointer none, .func (Fn.func 9) #[] #[.pointer (some ⟨C, 0, none⟩), .pointer (some ⟨GB, 0, none⟩), .pointer (some ⟨GA, 0, none⟩), .pointer (some ⟨GL, 0, none⟩)]], .int .i64 pos] w fun e w' =>
      e = .returned .nilIface ∧ GridOk w w' P S n (m - n) C GB GA GL 0 (xs.drop (m - n)) xs := by
  have hP : P < w.heap.size := World.block_lt_of_cell? _ _ hc
  go_enter Ybaf.func12, Ybaf.ntmps12
  go_wp2_with fail
  have kb : Kept [] w (w.alloc (.cells #[.int .i64 (n : Int), .pointer none, .func (Fn.func 9) #[] #[.pointer (some ⟨C, 0, none⟩), .pointer (some ⟨GB, 0, none⟩), .pointer (some ⟨GA, 0, none⟩), .pointer (some ⟨GL, 0, none⟩)]] 56)) := (Kept.refl [] w).alloc _
  have hbf : (w.alloc (.cells #[.int .i64 (n : Int), .pointer none, .func (Fn.func 9) #[] #[.pointer (some ⟨C, 0, none⟩), .pointer (some ⟨GB, 0, none⟩), .pointer (some ⟨GA, 0, none⟩), .pointer (some ⟨GL, 0, none⟩)]] 56)).cell? ⟨w.heap.size, 2, none⟩ = some (.func (Fn.func 9) #[] #[.pointer (some ⟨C, 0, none⟩), .pointer (some ⟨GB, 0, none⟩), .pointer (some ⟨GA, 0, none⟩), .pointer (some ⟨GL, 0, none⟩)]) := by simp [go_sem]
  refine (pop_ok P S m n c pos xs _ (kb.cellSome hc (by simp)) ((kb.frozen hP (by simp)).trans hf) hnm hmc hm hl (fun j u hj => (hrow.kept kb (by simp)).cell j u hj) h1).mono ?_
  rintro e w1 ⟨g, cap, rfl, hg, hrg, hk1, hc1, hf1⟩
  have hne' := hne
  simp at hne'
  obtain ⟨⟨p1, p2, p3, p4, p5⟩, ⟨s1, s2, s3, s4⟩, ⟨c1, c2, c3⟩, ⟨b1, b2⟩, a1⟩ := hne'
  have hz := kb.size
  have hP1 : P < w1.heap.size := World.block_lt_of_cell? _ _ hc1
  have hC1 := (hC.kept kb (by simp)).kept hk1 (by simp; omega)
  have hB1 := (hB.kept kb (by simp)).kept hk1 (by simp; omega)
  have hA1 := (hA.kept kb (by simp)).kept hk1 (by simp; omega)
  have hL1 := (hL.kept kb (by simp)).kept hk1 (by simp; omega)
  have hS1 := (hrow.kept kb (by simp)).kept hk1 (by simp; omega)
  have hbf1 := hk1.cellSome hbf (by simp; omega)
  have K1 : Kept [P] w w1 := (kb.weaken (by simp)).trans hk1
  have lC : C < w.heap.size := World.block_lt_of_cell? _ _ hC.1
  have lB : GB < w.heap.size := World.block_lt_of_cell? _ _ hB.1
  have lA : GA < w.heap.size := World.block_lt_of_cell? _ _ hA.1
  have lL : GL < w.heap.size := World.block_lt_of_cell? _ _ hL.1
  have lS := hrow.lt
  simp only [World.size_alloc] at hg
  have hgn : ¬ g ∈ [C, GB, GA, GL] := by simp; omega
  have hnd : [C, GB, GA, GL].Nodup := by simp; exact ⟨⟨c1, c2, c3⟩, ⟨b1, b2⟩, a1⟩
  have hld : (xs.drop (m - n)).length = n := by simp [hl]; omega
  have h1d : ∀ u ∈ xs.drop (m - n), u.oneCell' = true := fun u hu => h1 u (List.mem_of_mem_drop hu)
  obtain ⟨i0, hi, hz0, hz1, hz2⟩ := info_parts info41
  clear hc hf hC hB hA hL hrow hbf kb hk1
  go_wp2_with fail
  go_region_law (first
    | (clear tokA; go_must (refine step_append_grows (by rfl) (.tmp 50) (.tmp 59) 39 (by rfl) 41 i0 .nilIface 1 16 Ybaf.underlying39 hi hz0 hz1 hz2 rfl (by decide) (some ⟨S, 0, none⟩) (m - n) c xs (by rfl) (by simp) (by simp [hl]; omega) (olds_row hS2 _) ⟨w2.heap.size, 0, none⟩ 1 1 [mark] (by rfl) (by rfl) (news_one w2 mark) (by simp [Value.oneCell']) (by omega) (by unfold maxLen; omega) (by omega) ?_; intro v' w3 hown hgrow; obtain ⟨g3, cap3, hv, hcap3, hg3, hr3, hc3, hf3, hk3⟩ := after_grow hc2 hf2 hown hgrow; rw [hv]; clear hv hown hgrow))
    | (go_simp; go_at_call 9; refine (build_any P g n cap C GB GA GL 0 (xs.drop (m - n)) vB vA vL _ (by omega) hld h1d (by exact hrg) (by exact hC1) (by exact hB1) (by exact hA1) (by exact hL1) hnd hgn).mono ?_; rintro e w2 ⟨g2, cap2, rfl, hk2, hC2, hB2, hA2, hL2, hr2, hg2⟩; have hc2 := hk2.cellSome (p := ⟨P, 8, none⟩) hc1 (by simp; omega); have hS2 := Row.kept (w := w1.drew) (g := S) hS1 hk2 (by simp; omega); have hf2 := (hk2.frozen (p := ⟨P, 8, none⟩) (World.block_lt_of_cell? _ _ hc1) (by simp; omega)).trans hf1; have hP2 : P < w2.heap.size := World.block_lt_of_cell? _ _ hc2; have tokA : True := trivial))
  all_goals
    go_wp2
    go_ret
    exact ⟨rfl, grid_end (w1 := w1.drew) K1.drew hk2 hk3 (by simp) hC2 hB2 hA2 hL2 hr2 hg2 (by rw [List.take_of_length_le (by omega)]; exact hr3) (Or.inr hg3) hS1.lt hP1 hcap3 hc3 hne⟩
end Go.Proofs.YbulkcobyFmt
