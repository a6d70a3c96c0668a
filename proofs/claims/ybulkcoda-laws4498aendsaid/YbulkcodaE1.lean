import Derived.Test.YbulkcodaB3
import Derived.Test.YbulkcodaTick
namespace Go.Proofs.Ybulkcoda
open Go.RowKit

theorem info3 : (Yba.prog.info? 3).map (fun i => (i.zero, i.size, i.bytes)) = some (some (.int .i64 0), 1, 8) := by kernel_rfl
def mkI (n : Nat) : Array Value := madeCells #[.int .i64 0] n
theorem mkI_size (n : Nat) : (mkI n).size = n := by simp [mkI, madeCells]
theorem make24 (n : Nat) (hn : n ≤ 1024) (w : World) : (Instr.makeSlice 24 (.int .i64 (n : Int)) (.int .i64 (n : Int))).run Yba.prog w = .ok (.slice (some ⟨w.heap.size, 0, none⟩) n n) (w.alloc (.cells (mkI n) 3)) := by
  obtain ⟨i0, hi, hz0, hz1, hz2⟩ := info_parts info3
  rw [run_make w 24 3 i0 _ Yba.underlying24 hi hz0 .i64 .i64 n n (by omega) (by omega) (by rw [hz2]; omega) (by omega), hz1]
  simp [mkI, Value.cells]

/-- The bytes of a slice of the argument. -/
def InB (w : World) (sa : Option Addr) (n : Nat) (X : Nat → Nat) : Prop := n = 0 ∨ ∃ D o, sa = some ⟨D, o, none⟩ ∧ ∀ j, j < n → w.cell? ⟨D, o + j, none⟩ = some (.int .u8 (X j : Nat)) ∧ X j < 256
theorem InB.below {w w' : World} {sa : Option Addr} {n : Nat} {X : Nat → Nat} (h : InB w sa n X) (hb : Below w.heap.size w w') : InB w' sa n X := by
  rcases h with h | ⟨D, o, h1, h2⟩
  · exact Or.inl h
  · refine Or.inr ⟨D, o, h1, fun j hj => ?_⟩
    obtain ⟨a, b⟩ := h2 j hj
    exact ⟨(hb.cell (World.block_lt_of_cell? _ _ a)).trans a, b⟩

/-- The servers and the sums, while they are built: those below k stand. A, C: the sixteenths. -/
def Made (w : World) (B n k : Nat) (nm : Nat → ByteArray) (sl : Nat → Nat) (A C : Nat → Nat → Nat) : Prop := ∃ cur cus : Array Value, w.heap[B]? = some (.cells cur 76) ∧ cur.size = n * 2 ∧ w.heap[B + 1]? = some (.cells cus 3) ∧ cus.size = n ∧
  ∀ i, i < k → cur[i * 2]? = some (.string (nm i)) ∧ cus[i]? = some (.int .i64 (isum (A i) (C i) (sl i) : Nat)) ∧
    ∃ T sc, cur[i * 2 + 1]? = some (.slice (some ⟨T, 0, none⟩) (sl i) sc) ∧ B + 1 < T ∧ T < w.heap.size ∧ Streams w T (sl i) (fun j => fr (A i j)) (fun j => fr (C i j)) (fun _ => 0)
theorem Made.zero {w : World} {B n : Nat} {nm : Nat → ByteArray} {sl : Nat → Nat} {A C : Nat → Nat → Nat} (h : w.heap[B]? = some (.cells (mkB n) 76)) (h' : w.heap[B + 1]? = some (.cells (mkI n) 3)) : Made w B n 0 nm sl A C := ⟨_, _, h, mkB_size n, h', mkI_size n, fun i hi => absurd hi (Nat.not_lt_zero i)⟩
theorem Made.lt {w : World} {B n k : Nat} {nm : Nat → ByteArray} {sl : Nat → Nat} {A C : Nat → Nat → Nat} (h : Made w B n k nm sl A C) : B + 1 < w.heap.size := by
  obtain ⟨cur, cus, _, _, h1, _⟩ := h
  exact lt_of_block h1
theorem Made.spot {w : World} {B n k j : Nat} {nm : Nat → ByteArray} {sl : Nat → Nat} {A C : Nat → Nat → Nat} (h : Made w B n k nm sl A C) (hj : j < n * 2) : ∃ v, w.cell? ⟨B, j, none⟩ = some v ∧ w.frozen? ⟨B, j, none⟩ = false := by
  obtain ⟨cur, cus, h1, h2, _⟩ := h
  have hj' : j < cur.size := by omega
  exact ⟨cur[j], by rw [cell_of_heap h1]; simp [hj'], free_of_heap h1⟩
theorem Made.spotS {w : World} {B n k j : Nat} {nm : Nat → ByteArray} {sl : Nat → Nat} {A C : Nat → Nat → Nat} (h : Made w B n k nm sl A C) (hj : j < n) : ∃ v, w.cell? ⟨B + 1, j, none⟩ = some v ∧ w.frozen? ⟨B + 1, j, none⟩ = false := by
  obtain ⟨cur, cus, _, _, h1, h2, _⟩ := h
  have hj' : j < cus.size := by omega
  exact ⟨cus[j], by rw [cell_of_heap h1]; simp [hj'], free_of_heap h1⟩
theorem Made.keptNew {w w' : World} {B n k : Nat} {nm : Nat → ByteArray} {sl : Nat → Nat} {A C : Nat → Nat → Nat} (h : Made w B n k nm sl A C) (hk : Kept [w.heap.size] w w') : Made w' B n k nm sl A C := by
  have hlt := h.lt
  obtain ⟨cur, cus, h1, h2, h3, h4, h5⟩ := h
  refine ⟨cur, cus, (hk.block B (by omega) (by simp; omega)).trans h1, h2, (hk.block (B + 1) hlt (by simp; omega)).trans h3, h4, fun i hi => ?_⟩
  obtain ⟨a, a', T, sc, b, c, d, e⟩ := h5 i hi
  exact ⟨a, a', T, sc, b, c, Nat.lt_of_lt_of_le d hk.size, e.kept hk (by simp; omega)⟩
theorem Made.step {w : World} {B n k T sc : Nat} {nm : Nat → ByteArray} {sl : Nat → Nat} {A C : Nat → Nat → Nat} (h : Made w B n k nm sl A C) (hk : k < n) (hT : B + 1 < T) (hT2 : T < w.heap.size) (hs : Streams w T (sl k) (fun j => fr (A k j)) (fun j => fr (C k j)) (fun _ => 0)) :
    Made (((w.setCell ⟨B, k * 2, none⟩ (.string (nm k))).setCell ⟨B, k * 2 + 1, none⟩ (.slice (some ⟨T, 0, none⟩) (sl k) sc)).setCell ⟨B + 1, k, none⟩ (.int .i64 (isum (A k) (C k) (sl k) : Nat))) B n (k + 1) nm sl A C := by
  obtain ⟨w', hw'⟩ : ∃ w', w' = (((w.setCell ⟨B, k * 2, none⟩ (.string (nm k))).setCell ⟨B, k * 2 + 1, none⟩ (.slice (some ⟨T, 0, none⟩) (sl k) sc)).setCell ⟨B + 1, k, none⟩ (.int .i64 (isum (A k) (C k) (sl k) : Nat))) := ⟨_, rfl⟩
  have kk : Kept [B, B + 1] w w' := by
    rw [hw']
    exact (((Kept.refl [B, B + 1] w).setCell (p := ⟨B, k * 2, none⟩) (Or.inl (by simp)) _).setCell (p := ⟨B, k * 2 + 1, none⟩) (Or.inl (by simp)) _).setCell (p := ⟨B + 1, k, none⟩) (Or.inl (by simp)) _
  obtain ⟨cur, cus, h1, h2, h3, h4, h5⟩ := h
  have g1 : w'.heap[B]? = some (.cells ((cur.setIfInBounds (k * 2) (.string (nm k))).setIfInBounds (k * 2 + 1) (.slice (some ⟨T, 0, none⟩) (sl k) sc)) 76) := by
    rw [hw']
    exact (Below.heap_setCell _ _ _ _ (by simp)).trans (heap_setCell_same (heap_setCell_same h1 _) _)
  have g2 : w'.heap[B + 1]? = some (.cells (cus.setIfInBounds k (.int .i64 (isum (A k) (C k) (sl k) : Nat))) 3) := by
    rw [hw']
    exact heap_setCell_same ((Below.heap_setCell _ _ _ _ (by simp)).trans ((Below.heap_setCell _ _ _ _ (by simp)).trans h3)) _
  rw [← hw']
  refine ⟨_, _, g1, by simpa using h2, g2, by simpa using h4, fun i hi => ?_⟩
  simp only [Array.getElem?_setIfInBounds, Array.size_setIfInBounds]
  by_cases e : i = k
  · subst e
    refine ⟨?_, ?_, T, sc, ?_, hT, Nat.lt_of_lt_of_le hT2 kk.size, hs.kept kk (by simp; omega)⟩
    · rw [if_neg (by omega), if_pos rfl, if_pos (by omega)]
    · rw [if_pos rfl, if_pos (by omega)]
    · rw [if_pos rfl, if_pos (by omega)]
  · obtain ⟨a, a', T', sc', b, c, d, e'⟩ := h5 i (by omega)
    refine ⟨?_, ?_, T', sc', ?_, c, Nat.lt_of_lt_of_le d kk.size, e'.kept kk (by simp; omega)⟩
    · rw [if_neg (by omega), if_neg (by omega)]; exact a
    · rw [if_neg (by omega)]; exact a'
    · rw [if_neg (by omega), if_neg (by omega)]; exact b
theorem Made.out {w : World} {B n : Nat} {nm : Nat → ByteArray} {sl : Nat → Nat} {A C : Nat → Nat → Nat} (h : Made w B n n nm sl A C) :
    ∃ (sa : Nat → Option Addr) (sc : Nat → Nat), (∀ i, i < n → w.cell? ⟨B, i * 2, none⟩ = some (.string (nm i))) ∧ (∀ i, i < n → w.cell? ⟨B, i * 2 + 1, none⟩ = some (.slice (sa i) (sl i) (sc i))) ∧ (∀ i, i < n → Serves w (sa i) (sl i) (fun j => fr (A i j)) (fun j => fr (C i j))) ∧
      (∀ i, i < n → w.cell? ⟨B + 1, i, none⟩ = some (.int .i64 (isum (A i) (C i) (sl i) : Nat))) := by
  obtain ⟨cur, cus, h1, h2, h3, h4, h5⟩ := h
  have hx : ∀ i, ∃ p : Nat × Nat, i < n → cur[i * 2 + 1]? = some (.slice (some ⟨p.1, 0, none⟩) (sl i) p.2) ∧ Streams w p.1 (sl i) (fun j => fr (A i j)) (fun j => fr (C i j)) (fun _ => 0) := by
    intro i
    by_cases hi : i < n
    · obtain ⟨a, a', T, sc, b, c, d, e⟩ := h5 i hi
      exact ⟨(T, sc), fun _ => ⟨b, e⟩⟩
    · exact ⟨(0, 0), fun h => absurd h hi⟩
  refine ⟨fun i => some ⟨(Classical.choose (hx i)).1, 0, none⟩, fun i => (Classical.choose (hx i)).2, fun i hi => ?_, fun i hi => ?_, fun i hi => ?_, fun i hi => ?_⟩
  · rw [cell_of_heap h1]; exact (h5 i hi).1
  · rw [cell_of_heap h1]; exact (Classical.choose_spec (hx i) hi).1
  · exact Or.inr ⟨_, _, rfl, (Classical.choose_spec (hx i) hi).2⟩
  · rw [cell_of_heap h3]; exact (h5 i hi).2.1
end Go.Proofs.Ybulkcoda
