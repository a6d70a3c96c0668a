import Derived.Test.YbulkcodaB1
import Derived.Deep.QuietTactic
import Derived.BigQuiet
import Derived.Deep.RegionHeld3
namespace Go.Proofs.Ybulkcoda
open Go.RowKit

theorem info76 : (Yba.prog.info? 76).map (fun i => (i.zero, i.size, i.bytes)) = some (some (.agg #[.string ⟨#[]⟩, .slice none 0 0]), 2, 40) := by kernel_rfl
theorem info74 : (Yba.prog.info? 74).map (fun i => (i.zero, i.size, i.bytes)) = some (some (.agg #[.float .f64 0, .float .f64 0, .float .f64 0]), 3, 24) := by kernel_rfl

def mkB (n : Nat) : Array Value := madeCells #[.string ⟨#[]⟩, .slice none 0 0] (n * 2)
def mkS (n : Nat) : Array Value := madeCells #[.float .f64 0, .float .f64 0, .float .f64 0] (n * 3)
theorem mkB_size (n : Nat) : (mkB n).size = n * 2 := by simp [mkB, madeCells]
theorem mkS_size (n : Nat) : (mkS n).size = n * 3 := by simp [mkS, madeCells]
theorem make69 (n : Nat) (hn : n ≤ 1024) (w : World) : (Instr.makeSlice 69 (.int .i64 (n : Int)) (.int .i64 (n : Int))).run Yba.prog w = .ok (.slice (some ⟨w.heap.size, 0, none⟩) n n) (w.alloc (.cells (mkB n) 76)) := by
  obtain ⟨i0, hi, hz0, hz1, hz2⟩ := info_parts info76
  rw [run_make w 69 76 i0 _ Yba.underlying69 hi hz0 .i64 .i64 n n (by omega) (by omega) (by rw [hz2]; omega) (by omega), hz1]
  simp [mkB, Value.cells]
theorem make70 (n : Nat) (hn : n ≤ 1024) (w : World) : (Instr.makeSlice 70 (.int .i64 (n : Int)) (.int .i64 (n : Int))).run Yba.prog w = .ok (.slice (some ⟨w.heap.size, 0, none⟩) n n) (w.alloc (.cells (mkS n) 74)) := by
  obtain ⟨i0, hi, hz0, hz1, hz2⟩ := info_parts info74
  rw [run_make w 70 74 i0 _ Yba.underlying70 hi hz0 .i64 .i64 n n (by omega) (by omega) (by rw [hz2]; omega) (by omega), hz1]
  simp [mkS, Value.cells]

/-- A block's cells, one of them written. -/
theorem heap_setCell_same {w : World} {b k : Nat} {cur : Array Value} {t : TypeId} (h : w.heap[b]? = some (.cells cur t)) (v : Value) : (w.setCell ⟨b, k, none⟩ v).heap[b]? = some (.cells (cur.setIfInBounds k v) t) := by
  have hlt := lt_of_block h
  have h' : w.heap[b] = .cells cur t (0, 0) := by simpa [Array.getElem?_eq_getElem hlt] using h
  show (w.heap.modify b _)[b]? = _
  rw [Array.getElem?_eq_getElem (by simpa using hlt), Array.getElem_modify_self, h']
  rfl
theorem cell_of_heap {w : World} {b k : Nat} {cur : Array Value} {t : TypeId} (h : w.heap[b]? = some (.cells cur t)) : w.cell? ⟨b, k, none⟩ = cur[k]? := by simp [World.cell?, h]
theorem free_of_heap {w : World} {b k : Nat} {cur : Array Value} {t : TypeId} (h : w.heap[b]? = some (.cells cur t)) : w.frozen? ⟨b, k, none⟩ = false := by simp [World.frozen?, h]

/-- The streams while they are copied. -/
def FillS (w : World) (T m j : Nat) (R M Q : Nat → Nat) : Prop := ∃ cur : Array Value, w.heap[T]? = some (.cells cur 74) ∧ cur.size = m * 3 ∧
  ∀ i, i < j → cur[i * 3]? = some (.float .f64 (R i)) ∧ cur[i * 3 + 1]? = some (.float .f64 (M i)) ∧ cur[i * 3 + 1 + 1]? = some (.float .f64 (Q i))
theorem FillS.zero {w : World} {T m : Nat} {R M Q : Nat → Nat} (h : w.heap[T]? = some (.cells (mkS m) 74)) : FillS w T m 0 R M Q := ⟨_, h, mkS_size m, fun i hi => absurd hi (Nat.not_lt_zero i)⟩
theorem FillS.spot {w : World} {T m j : Nat} {R M Q : Nat → Nat} (h : FillS w T m j R M Q) {k : Nat} (hk : k < m * 3) : ∃ v, w.cell? ⟨T, k, none⟩ = some v ∧ w.frozen? ⟨T, k, none⟩ = false := by
  obtain ⟨cur, h1, h2, _⟩ := h
  have hk' : k < cur.size := by omega
  exact ⟨cur[k], by rw [cell_of_heap h1]; simp [hk'], free_of_heap h1⟩
theorem FillS.step {w : World} {T m j : Nat} {R M Q : Nat → Nat} (h : FillS w T m j R M Q) (hj : j < m) :
    FillS (((w.setCell ⟨T, j * 3, none⟩ (.float .f64 (R j))).setCell ⟨T, j * 3 + 1, none⟩ (.float .f64 (M j))).setCell ⟨T, j * 3 + 1 + 1, none⟩ (.float .f64 (Q j))) T m (j + 1) R M Q := by
  obtain ⟨cur, h1, h2, h3⟩ := h
  refine ⟨_, heap_setCell_same (heap_setCell_same (heap_setCell_same h1 _) _) _, by simpa using h2, ?_⟩
  intro i hi
  simp only [Array.getElem?_setIfInBounds, Array.size_setIfInBounds]
  by_cases e : i = j
  · subst e
    refine ⟨?_, ?_, ?_⟩
    · rw [if_neg (by omega), if_neg (by omega), if_pos rfl, if_pos (by omega)]
    · rw [if_neg (by omega), if_pos rfl, if_pos (by omega)]
    · rw [if_pos rfl, if_pos (by omega)]
  · obtain ⟨a, b, c⟩ := h3 i (by omega)
    refine ⟨?_, ?_, ?_⟩
    · rw [if_neg (by omega), if_neg (by omega), if_neg (by omega)]; exact a
    · rw [if_neg (by omega), if_neg (by omega), if_neg (by omega)]; exact b
    · rw [if_neg (by omega), if_neg (by omega), if_neg (by omega)]; exact c
theorem FillS.streams {w : World} {T m : Nat} {R M Q : Nat → Nat} (h : FillS w T m m R M Q) : Streams w T m R M Q := by
  obtain ⟨cur, h1, _, h3⟩ := h
  intro i hi
  rw [cell_of_heap h1, cell_of_heap h1, cell_of_heap h1]
  exact h3 i hi
theorem FillS.lt {w : World} {T m j : Nat} {R M Q : Nat → Nat} (h : FillS w T m j R M Q) : T < w.heap.size := by
  obtain ⟨cur, h1, _⟩ := h
  exact lt_of_block h1

/-- The servers while they are built: those below k stand. -/
def Built (w : World) (B n k : Nat) (nm : Nat → ByteArray) (sl : Nat → Nat) (R M : Nat → Nat → Nat) : Prop := ∃ cur : Array Value, w.heap[B]? = some (.cells cur 76) ∧ cur.size = n * 2 ∧
  ∀ i, i < k → cur[i * 2]? = some (.string (nm i)) ∧ ∃ sa sc, cur[i * 2 + 1]? = some (.slice sa (sl i) sc) ∧ (sl i = 0 ∨ ∃ T Q, sa = some ⟨T, 0, none⟩ ∧ B < T ∧ Streams w T (sl i) (R i) (M i) Q)
theorem Built.zero {w : World} {B n : Nat} {nm : Nat → ByteArray} {sl : Nat → Nat} {R M : Nat → Nat → Nat} (h : w.heap[B]? = some (.cells (mkB n) 76)) : Built w B n 0 nm sl R M := ⟨_, h, mkB_size n, fun i hi => absurd hi (Nat.not_lt_zero i)⟩
theorem Built.lt {w : World} {B n k : Nat} {nm : Nat → ByteArray} {sl : Nat → Nat} {R M : Nat → Nat → Nat} (h : Built w B n k nm sl R M) : B < w.heap.size := by
  obtain ⟨cur, h1, _⟩ := h
  exact lt_of_block h1
theorem Built.spot {w : World} {B n k j : Nat} {nm : Nat → ByteArray} {sl : Nat → Nat} {R M : Nat → Nat → Nat} (h : Built w B n k nm sl R M) (hj : j < n * 2) : ∃ v, w.cell? ⟨B, j, none⟩ = some v ∧ w.frozen? ⟨B, j, none⟩ = false := by
  obtain ⟨cur, h1, h2, _⟩ := h
  have hj' : j < cur.size := by omega
  exact ⟨cur[j], by rw [cell_of_heap h1]; simp [hj'], free_of_heap h1⟩
/-- Writes to blocks above B that are none of the streams' leave it standing. -/
theorem Built.kept {w w' : World} {B n k : Nat} {nm : Nat → ByteArray} {sl : Nat → Nat} {R M : Nat → Nat → Nat} (h : Built w B n k nm sl R M) (hk : Kept [] w w') : Built w' B n k nm sl R M := by
  obtain ⟨cur, h1, h2, h3⟩ := h
  refine ⟨cur, (hk.block B (lt_of_block h1) (by simp)).trans h1, h2, fun i hi => ?_⟩
  obtain ⟨a, sa, sc, b, c⟩ := h3 i hi
  refine ⟨a, sa, sc, b, ?_⟩
  rcases c with c | ⟨T, Q, c1, c2, c3⟩
  · exact Or.inl c
  · exact Or.inr ⟨T, Q, c1, c2, c3.kept hk (by simp)⟩
/-- .. writes to what is new. -/
theorem Built.keptNew {w w' : World} {B n k : Nat} {nm : Nat → ByteArray} {sl : Nat → Nat} {R M : Nat → Nat → Nat} (h : Built w B n k nm sl R M) (hk : Kept [w.heap.size] w w') : Built w' B n k nm sl R M := by
  obtain ⟨cur, h1, h2, h3⟩ := h
  have hlt := lt_of_block h1
  refine ⟨cur, (hk.block B hlt (by simp; omega)).trans h1, h2, fun i hi => ?_⟩
  obtain ⟨a, sa, sc, b, c⟩ := h3 i hi
  refine ⟨a, sa, sc, b, ?_⟩
  by_cases h0 : sl i = 0
  · exact Or.inl h0
  rcases c with c | ⟨T, Q, c1, c2, c3⟩
  · exact Or.inl c
  · have hT : T < w.heap.size := World.block_lt_of_cell? _ _ (c3 0 (by omega)).1
    exact Or.inr ⟨T, Q, c1, c2, c3.kept hk (by simp; omega)⟩
theorem Built.step {w : World} {B n k : Nat} {nm : Nat → ByteArray} {sl : Nat → Nat} {R M : Nat → Nat → Nat} {sa : Option Addr} {sc : Nat} (h : Built w B n k nm sl R M) (hk : k < n) (hs : sl k = 0 ∨ ∃ T Q, sa = some ⟨T, 0, none⟩ ∧ B < T ∧ Streams w T (sl k) (R k) (M k) Q) :
    Built ((w.setCell ⟨B, k * 2, none⟩ (.string (nm k))).setCell ⟨B, k * 2 + 1, none⟩ (.slice sa (sl k) sc)) B n (k + 1) nm sl R M := by
  have kk : Kept [B] w ((w.setCell ⟨B, k * 2, none⟩ (.string (nm k))).setCell ⟨B, k * 2 + 1, none⟩ (.slice sa (sl k) sc)) := ((Kept.refl [B] w).setCell (p := ⟨B, k * 2, none⟩) (Or.inl (by simp)) _).setCell (p := ⟨B, k * 2 + 1, none⟩) (Or.inl (by simp)) _
  have st : ∀ {sa' : Option Addr} {i : Nat}, (sl i = 0 ∨ ∃ T Q, sa' = some ⟨T, 0, none⟩ ∧ B < T ∧ Streams w T (sl i) (R i) (M i) Q) → (sl i = 0 ∨ ∃ T Q, sa' = some ⟨T, 0, none⟩ ∧ B < T ∧ Streams ((w.setCell ⟨B, k * 2, none⟩ (.string (nm k))).setCell ⟨B, k * 2 + 1, none⟩ (.slice sa (sl k) sc)) T (sl i) (R i) (M i) Q) := by
    intro sa' i c
    rcases c with c | ⟨T, Q, c1, c2, c3⟩
    · exact Or.inl c
    · exact Or.inr ⟨T, Q, c1, c2, c3.kept kk (by simp; omega)⟩
  obtain ⟨cur, h1, h2, h3⟩ := h
  refine ⟨_, heap_setCell_same (heap_setCell_same h1 _) _, by simpa using h2, fun i hi => ?_⟩
  simp only [Array.getElem?_setIfInBounds, Array.size_setIfInBounds]
  by_cases e : i = k
  · subst e
    refine ⟨?_, sa, sc, ?_, st hs⟩
    · rw [if_neg (by omega), if_pos rfl, if_pos (by omega)]
    · rw [if_pos rfl, if_pos (by omega)]
  · obtain ⟨a, sa', sc', b, c⟩ := h3 i (by omega)
    refine ⟨?_, sa', sc', ?_, st c⟩
    · rw [if_neg (by omega), if_neg (by omega)]; exact a
    · rw [if_neg (by omega), if_neg (by omega)]; exact b
theorem Built.out {w : World} {B n : Nat} {nm : Nat → ByteArray} {sl : Nat → Nat} {R M : Nat → Nat → Nat} (h : Built w B n n nm sl R M) :
    ∃ (sa : Nat → Option Addr) (sc : Nat → Nat), (∀ i, i < n → w.cell? ⟨B, i * 2, none⟩ = some (.string (nm i))) ∧ (∀ i, i < n → w.cell? ⟨B, i * 2 + 1, none⟩ = some (.slice (sa i) (sl i) (sc i))) ∧ (∀ i, i < n → Serves w (sa i) (sl i) (R i) (M i)) := by
  obtain ⟨cur, h1, h2, h3⟩ := h
  have hx : ∀ i, ∃ p : Option Addr × Nat, i < n → cur[i * 2 + 1]? = some (.slice p.1 (sl i) p.2) ∧ Serves w p.1 (sl i) (R i) (M i) := by
    intro i
    by_cases hi : i < n
    · obtain ⟨a, sa, sc, b, c⟩ := h3 i hi
      refine ⟨(sa, sc), fun _ => ⟨b, ?_⟩⟩
      rcases c with c | ⟨T, Q, c1, c2, c3⟩
      · exact Or.inl c
      · exact Or.inr ⟨T, Q, c1, c3⟩
    · exact ⟨(none, 0), fun h => absurd h hi⟩
  refine ⟨fun i => (Classical.choose (hx i)).1, fun i => (Classical.choose (hx i)).2, fun i hi => ?_, fun i hi => ?_, fun i hi => ?_⟩
  · rw [cell_of_heap h1]; exact (h3 i hi).1
  · rw [cell_of_heap h1]; exact (Classical.choose_spec (hx i) hi).1
  · exact (Classical.choose_spec (hx i) hi).2
end Go.Proofs.Ybulkcoda
