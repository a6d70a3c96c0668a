import Derived.Test.YbulkcobyFmtW06
namespace Go.Proofs.YbulkcobyFmt
open Go.RowKit Go.Extern.Stop Go.Stop Go.Extern

/-- One cell of a block of its own, which may be written. -/
def One (w : World) (b : Nat) (v : Value) : Prop := w.cell? ⟨b, 0, none⟩ = some v ∧ w.frozen? ⟨b, 0, none⟩ = false
theorem One.kept {ex : List Nat} {w w' : World} {b : Nat} {v : Value} (h : One w b v) (k : Kept ex w w') (he : ¬ b ∈ ex) : One w' b v :=
  ⟨k.cellSome h.1 he, (k.frozen (World.block_lt_of_cell? _ _ h.1) he).trans h.2⟩
theorem One.set {w : World} {b : Nat} {v : Value} (h : One w b v) (u : Value) : One (w.setCell ⟨b, 0, none⟩ u) b u :=
  ⟨World.cell?_setCell_same _ _ _ h.1, (World.frozen?_setCell _ _ _ _).trans h.2⟩
theorem One.other {w : World} {b c : Nat} {v : Value} (h : One w b v) (hne : ¬ c = b) (u : Value) : One (w.setCell ⟨c, 0, none⟩ u) b v :=
  ⟨(World.cell?_setCell_other _ _ _ _ (fun e => hne (by cases e; rfl))).trans h.1, (World.frozen?_setCell _ _ _ _).trans h.2⟩
theorem Row.kept {ex : List Nat} {w w' : World} {g : Nat} {xs : List Value} (h : Row w g xs) (k : Kept ex w w') (he : ¬ g ∈ ex) : Row w' g xs := by
  obtain ⟨cur, h1, h2⟩ := h
  exact ⟨cur, (k.block g (lt_of_block h1) he).trans h1, h2⟩
theorem Row.lt {w : World} {g : Nat} {xs : List Value} (h : Row w g xs) : g < w.heap.size := by
  obtain ⟨cur, h1, _⟩ := h
  exact lt_of_block h1

set_option maxRecDepth 100000 in
set_option maxHeartbeats 1000000 in
theorem build_any (P g n cap C GB GA GL last : Nat) (xs : List Value) (vB vA vL : Value) (w : World) (hn : n ≤ 1024) (hl : xs.length = n) (h1 : ∀ u ∈ xs, u.oneCell' = true) (hrow : Row w g xs)
    (hC : One w C (.int .i64 0)) (hB : One w GB vB) (hA : One w GA vA) (hL : One w GL vL) (hne : [C, GB, GA, GL].Nodup) (hg : ¬ g ∈ [C, GB, GA, GL]) :
    Calls Ybaf.prog 9 #[.pointer (some ⟨P, 0, none⟩), .slice (some ⟨g, 0, none⟩) n cap, .float .f64 last, .pointer (some ⟨C, 0, none⟩), .pointer (some ⟨GB, 0, none⟩), .pointer (some ⟨GA, 0, none⟩), .pointer (some ⟨GL, 0, none⟩)] w fun e w' =>
      ∃ g2 cap2, e = .returned (.iface 52 (.agg #[.int .i64 7])) ∧ Kept [C, GB, GA, GL] w w' ∧ One w' C (.int .i64 1) ∧ One w' GB (.pointer (some ⟨P, 0, none⟩)) ∧ One w' GA (.slice (some ⟨g2, 0, none⟩) n cap2) ∧ One w' GL (.float .f64 last) ∧ Row w' g2 xs ∧ w.heap.size ≤ g2 := by
  simp at hne hg
  obtain ⟨⟨n1, n2, n3⟩, ⟨n4, n5⟩, n6⟩ := hne
  obtain ⟨m1, m2, m3, m4⟩ := hg
  have hC1 := hC.set (.int .i64 1)
  have hB1 := hB.other n1 (.int .i64 1)
  have hB2 := hB1.set (.pointer (some ⟨P, 0, none⟩))
  have k2 : Kept [C, GB, GA, GL] w ((w.setCell ⟨C, 0, none⟩ (.int .i64 1)).setCell ⟨GB, 0, none⟩ (.pointer (some ⟨P, 0, none⟩))) := ((Kept.refl _ w).setCell (p := ⟨C, 0, none⟩) (Or.inl (by simp)) _).setCell (p := ⟨GB, 0, none⟩) (Or.inl (by simp)) _
  have hC2 := hC1.other (fun e => n1 e.symm) (.pointer (some ⟨P, 0, none⟩))
  have hA2 := (hA.other n2 (.int .i64 1)).other n4 (.pointer (some ⟨P, 0, none⟩))
  have hL2 := (hL.other n3 (.int .i64 1)).other n5 (.pointer (some ⟨P, 0, none⟩))
  have hrow2 : Row ((w.setCell ⟨C, 0, none⟩ (.int .i64 1)).setCell ⟨GB, 0, none⟩ (.pointer (some ⟨P, 0, none⟩))) g xs := hrow.kept k2 (by simp; omega)
  obtain ⟨c0, f0⟩ := hC
  obtain ⟨c1, f1⟩ := hB1
  clear hC1 hB hA hL hrow
  have hsf := fun (w : World) (a : Addr) (b : Nat) (m : Mode) => run_store Ybaf.prog w a (.float .f64 b) m rfl
  go_enter Ybaf.func9, Ybaf.ntmps9
  go_wp2_with fail
  refine (clone_any g 0 n cap xs _ (by omega) hl (fun j u hj => by simpa using hrow2.cell j u hj) h1).mono ?_
  rintro e w1 ⟨g2, cap2, rfl, hg2, hr2, hk⟩
  have k3 := k2.trans (hk.weaken (by simp))
  have hz := hk.size
  have hz0 := k2.size
  have hA3 := hA2.kept hk (by simp)
  have hL3 := (hL2.kept hk (by simp)).other n6 (.slice (some ⟨g2, 0, none⟩) n cap2)
  have hC3 := hC2.kept hk (by simp)
  have hB3 := hB2.kept hk (by simp)
  have lA := World.block_lt_of_cell? _ _ hA2.1
  have lL := World.block_lt_of_cell? _ _ hL2.1
  have lC := World.block_lt_of_cell? _ _ hC2.1
  have lB := World.block_lt_of_cell? _ _ hB2.1
  obtain ⟨c3, f3⟩ := hA3
  obtain ⟨c4, f4⟩ := hL3
  clear hk hC2 hB2 hA2 hL2 hrow2 c0 f0 c1 f1
  go_wp2
  go_ret
  simp only [World.size_setCell] at hg2 lA lL lC lB
  refine ⟨g2, cap2, rfl, ?_, ?_, ?_, ?_, ?_, ?_, ?_⟩
  · exact (k3.setCell (p := ⟨GA, 0, none⟩) (Or.inl (by simp)) _).setCell (p := ⟨GL, 0, none⟩) (Or.inl (by simp)) _
  · exact (hC3.other (fun e => n2 e.symm) _).other (fun e => n3 e.symm) _
  · exact (hB3.other (fun e => n4 e.symm) _).other (fun e => n5 e.symm) _
  · exact (One.set ⟨c3, f3⟩ _).other (fun e => n6 e.symm) _
  · exact One.set ⟨c4, f4⟩ _
  · exact hr2.kept (ex := [GA, GL]) (((Kept.refl _ w1).setCell (p := ⟨GA, 0, none⟩) (Or.inl (by simp)) _).setCell (p := ⟨GL, 0, none⟩) (Or.inl (by simp)) _) (by simp; omega)
  · exact hg2
end Go.Proofs.YbulkcobyFmt
