import Derived.Test.YbulkcobyFmtW03
namespace Go.Proofs.YbulkcobyFmt
open Go.RowKit Go.Extern.Stop Go.Stop Go.Extern

theorem row_setCell {w : World} {g : Nat} {xs : List Value} (h : Row w g xs) {a : Addr} (ha : ¬ a.block = g) (v : Value) : Row (w.setCell a v).drew g xs := by
  obtain ⟨cur, h1, h2⟩ := h
  exact ⟨cur, (Below.heap_setCell w a v g (fun e => ha e.symm)).trans h1, h2⟩

set_option maxRecDepth 100000 in
set_option maxHeartbeats 1000000 in
theorem pop_ok (P S m n c : Nat) (pos : Int) (xs : List Value) (w : World) (hc : w.cell? ⟨P, 8, none⟩ = some (.slice (some ⟨S, 0, none⟩) m c)) (hf : w.frozen? ⟨P, 8, none⟩ = false) (hnm : n ≤ m) (hmc : m ≤ c) (hm : m ≤ 1024)
    (hl : xs.length = m) (hx : ∀ j u, xs[j]? = some u → w.cell? ⟨S, j, none⟩ = some u) (h1 : ∀ u ∈ xs, u.oneCell' = true) :
    Calls Ybaf.prog 19 #[.pointer (some ⟨P, 0, none⟩), .string ⟨#[79, 80]⟩, .int .i64 (n : Int), .int .i64 pos] w fun e w' =>
      ∃ g cap, e = .returned (.tuple #[.slice (some ⟨g, 0, none⟩) n cap, .nilIface]) ∧ w.heap.size ≤ g ∧ Row w' g (xs.drop (m - n)) ∧ Kept [P] w w' ∧ w'.cell? ⟨P, 8, none⟩ = some (.slice (some ⟨S, 0, none⟩) (m - n) c) ∧ w'.frozen? ⟨P, 8, none⟩ = false := by
  have hP : P < w.heap.size := World.block_lt_of_cell? _ _ hc
  have hlt : ¬ ((m : Int) < (n : Int)) := by omega
  have b1 : (0 : Int) ≤ (m : Int) - (n : Int) := by omega
  have b2 : (m : Int) - (n : Int) ≤ (m : Int) := by omega
  have b3 : (m : Int) ≤ (c : Int) := by omega
  have b4 : (m : Int) ≤ 1024 := by omega
  obtain ⟨i0, hi, hz0, hz1, hz2⟩ := info_parts info41
  obtain ⟨o, ho⟩ : ∃ o, o = (if c = m - n then 0 else 0 + (m - n)) := ⟨_, rfl⟩
  have hsl : ∀ w, (Instr.slice 39 (.slice (some ⟨S, 0, none⟩) m c) (some (.int .i64 ((m : Int) - (n : Int)))) none none).run Ybaf.prog w = .ok (.slice (some ⟨S, o, none⟩) n (c - (m - n))) w := fun w => by
    rw [slice_low w Ybaf.underlying39 hi hz1 S 0 m c (m - n) _ (by omega) (by omega), ← ho, show m - (m - n) = n from by omega]
  have hsh : ∀ w, (Instr.slice 39 (.slice (some ⟨S, 0, none⟩) m c) none (some (.int .i64 ((m : Int) - (n : Int)))) none).run Ybaf.prog w = .ok (.slice (some ⟨S, 0, none⟩) (m - n) c) w := fun w =>
    slice_high w Ybaf.underlying39 hi S 0 m c (m - n) _ (by omega) (by omega)
  have Ho : Hid (n = 0 ∨ o = m - n) := by
    by_cases h : c = m - n
    · exact Or.inl (by omega)
    · rw [if_neg h] at ho; exact Or.inr (by omega)
  clear ho hi hz0 hz1 hz2
  have hwr : IntKind.i64.wrap ((m : Int) - (n : Int)) = (m : Int) - (n : Int) := by rw [IntKind.wrap_i64]; omega
  have hxd : ∀ j u, (xs.drop (m - n))[j]? = some u → w.drew.cell? ⟨S, o + j, none⟩ = some u := by
    intro j u hj
    have hlt : j < (xs.drop (m - n)).length := by
      rcases Nat.lt_or_ge j (xs.drop (m - n)).length with h | h
      · exact h
      · rw [List.getElem?_eq_none h] at hj; cases hj
    simp [hl] at hlt
    rw [List.getElem?_drop] at hj
    rcases Ho.out with h | h
    · omega
    · rw [h]; exact hx _ u hj
  have hld : (xs.drop (m - n)).length = n := by simp [hl]; omega
  have h1d : ∀ u ∈ xs.drop (m - n), u.oneCell' = true := fun u hu => h1 u (List.mem_of_mem_drop hu)
  clear hx h1 hl
  go_enter Ybaf.func19, Ybaf.ntmps19
  go_wp2
  go_region_held3 (fun w' => w'.cell? ⟨P, 8, none⟩ = some (.slice (some ⟨S, 0, none⟩) m c) ∧ Kept [] w w')
    (first | exact ⟨hc, (Kept.refl _ _).drew⟩ | exact s1_kept (by assumption) (by assumption) | exact s1_drew (by assumption) | exact s1_alloc (by assumption))
    ((go_at_call 10; refine (clone_any S o n _ (xs.drop (m - n)) _ (by omega) hld hxd h1d).mono ?_; rintro e w1 ⟨g, cap, rfl, hg, hrow, hk⟩))
  have hc1 : w1.cell? ⟨P, 8, none⟩ = some (.slice (some ⟨S, 0, none⟩) m c) := hk.cellSome hc (by simp)
  have hf1 : w1.frozen? ⟨P, 8, none⟩ = false := (hk.frozen hP (by simp)).trans hf
  clear hxd hld h1d hsl
  go_wp2
  go_region
  all_goals (go_wp2; go_ret2)
  have hgP : ¬ P = g := by have := hk.size; simp at hg; omega
  refine ⟨g, cap, rfl, by simpa using hg, ?_, ?_, ?_, ?_⟩
  · exact row_setCell hrow hgP _
  · exact ((((Kept.refl [P] w).drew).trans (hk.weaken (by simp))).setCell (p := ⟨P, 8, none⟩) (Or.inl (by simp)) _).drew
  · exact World.cell?_setCell_same _ _ _ hc1
  · exact (World.frozen?_setCell _ _ _ _).trans hf1
end Go.Proofs.YbulkcobyFmt
