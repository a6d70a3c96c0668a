import Derived.Test.YbulkcodaC2
import Derived.Test.YbulkcodaE1
namespace Go.Proofs.Ybulkcoda
open Go.RowKit Go.MuLone

def nums (X : Nat → Nat) (n : Nat) : List Int := (List.range n).map fun j => (X j : Int)
def vals (X : Nat → Nat) (n : Nat) : List Value := (List.range n).map fun j => .int .u8 (X j : Nat)
theorem nums_length (X : Nat → Nat) (n : Nat) : (nums X n).length = n := by simp [nums]
theorem vals_length (X : Nat → Nat) (n : Nat) : (vals X n).length = n := by simp [vals]
theorem nums_getD (X : Nat → Nat) (n i : Nat) (h : i < n) : (nums X n).getD i 0 = (X i : Int) := by simp [nums, List.getD, h]
theorem vals_get (X : Nat → Nat) (n i : Nat) (h : i < n) : (vals X n)[i]? = some (.int .u8 (X i : Nat)) := by simp [vals, h]
theorem vals_lt {X : Nat → Nat} {n i : Nat} {u : Value} (h : (vals X n)[i]? = some u) : i < n ∧ u = .int .u8 (X i : Nat) := by
  by_cases hi : i < n
  · rw [vals_get X n i hi] at h
    exact ⟨hi, by simpa using h.symm⟩
  · rw [List.getElem?_eq_none (by rw [vals_length]; omega)] at h
    cases h
theorem vals_one (X : Nat → Nat) (n : Nat) : ∀ u ∈ vals X n, u.oneCell' = true := by
  intro u hu
  simp only [vals, List.mem_map] at hu
  obtain ⟨j, _, rfl⟩ := hu
  rfl

theorem conv_zero (w : World) (sa : Option Addr) (c : Nat) : (convert 84 9 (.slice sa 0 c)).run Yba.prog w = .ok (.string ByteArray.empty) w := by
  cases sa with
  | none => exact run_convert_bytes_nil w 84 5 Yba.underlying84 Yba.underlying5 0 c 9 Yba.underlying9
  | some a =>
    rw [run_convert_bytes_string w 84 9 5 _ 0 c Yba.underlying84 Yba.underlying5 Yba.underlying9, run_bytesToString w a 0 c [] (by simp [loadCells, loadCellsFrom])]
    rfl
/-- 'string(b)' of a slice of the argument. -/
theorem conv_in {w : World} {sa : Option Addr} {n c : Nat} {X : Nat → Nat} (h : InB w sa n X) : (convert 84 9 (.slice sa n c)).run Yba.prog w = .ok (.string (strOfNums (nums X n))) w := by
  by_cases h0 : n = 0
  · subst h0
    exact conv_zero w sa c
  rcases h with h | ⟨D, o, rfl, hc⟩
  · exact absurd h h0
  · exact run_convert_bytes_arg w 84 5 Yba.underlying84 Yba.underlying5 D o n c (nums X n) (nums_length X n) (fun i hi => by rw [nums_getD X n i hi]; exact (hc i hi).1) 9 Yba.underlying9
theorem InB.drewN {w : World} {sa : Option Addr} {n : Nat} {X : Nat → Nat} (h : InB w sa n X) (m : Nat) : InB (w.drewN m) sa n X := h

/-- A clone of n bytes, in a block above B. -/
def Cl (w : World) (B n : Nat) (X : Nat → Nat) (ga : Option Addr) : Prop := (ga = none ∧ n = 0) ∨ ∃ g, ga = some ⟨g, 0, none⟩ ∧ B < g ∧ Row 5 w g (vals X n)
theorem Cl.kept {w w' : World} {B n : Nat} {X : Nat → Nat} {ga : Option Addr} {ex : List Nat} (h : Cl w B n X ga) (k : Kept ex w w') (hx : ∀ g, g ∈ ex → g ≤ B ∨ w.heap.size ≤ g) : Cl w' B n X ga := by
  rcases h with h | ⟨g, h1, h2, h3⟩
  · exact Or.inl h
  · refine Or.inr ⟨g, h1, h2, h3.kept k (fun hm => ?_)⟩
    have := hx g hm
    have := h3.lt
    omega
theorem Cl.drewN {w : World} {B n : Nat} {X : Nat → Nat} {ga : Option Addr} (h : Cl w B n X ga) (m : Nat) : Cl (w.drewN m) B n X ga := h
theorem conv_cl {w : World} {B n c : Nat} {X : Nat → Nat} {ga : Option Addr} (h : Cl w B n X ga) : (convert 84 9 (.slice ga n c)).run Yba.prog w = .ok (.string (strOfNums (nums X n))) w := by
  rcases h with ⟨rfl, rfl⟩ | ⟨g, rfl, _, hr⟩
  · exact conv_zero w none c
  · refine run_convert_bytes_arg w 84 5 Yba.underlying84 Yba.underlying5 g 0 n c (nums X n) (nums_length X n) (fun i hi => ?_) 9 Yba.underlying9
    rw [nums_getD X n i hi, Nat.zero_add]
    exact hr.cell i _ (vals_get X n i hi)

/-- The clones: those below k stand in block B. -/
def Clones (w : World) (B n k : Nat) (la : Nat → Nat) (X : Nat → Nat → Nat) (cur : Array Value) : Prop := w.heap[B]? = some (.cells cur 84) ∧ cur.size = n ∧
  (∀ i, i < n → ∃ ga l c, cur[i]? = some (.slice ga l c)) ∧ ∀ i, i < k → ∃ ga c, cur[i]? = some (.slice ga (la i) c) ∧ Cl w B (la i) (X i) ga
theorem Clones.lt {w : World} {B n k : Nat} {la : Nat → Nat} {X : Nat → Nat → Nat} {cur : Array Value} (h : Clones w B n k la X cur) : B < w.heap.size := lt_of_block h.1
theorem Clones.kept {w w' : World} {B n k : Nat} {la : Nat → Nat} {X : Nat → Nat → Nat} {cur : Array Value} {ex : List Nat} (h : Clones w B n k la X cur) (hk : Kept ex w w') (hx : ∀ g, g ∈ ex → g < B ∨ w.heap.size ≤ g) : Clones w' B n k la X cur := by
  have hlt := h.lt
  obtain ⟨h1, h2, h3, h4⟩ := h
  refine ⟨(hk.block B hlt (fun hm => by have := hx B hm; omega)).trans h1, h2, h3, fun i hi => ?_⟩
  obtain ⟨ga, c, a, b⟩ := h4 i hi
  exact ⟨ga, c, a, b.kept hk (fun g hg => by have := hx g hg; omega)⟩
theorem Clones.step {w : World} {B n k : Nat} {la : Nat → Nat} {X : Nat → Nat → Nat} {cur : Array Value} {ga : Option Addr} {c : Nat} (h : Clones w B n k la X cur) (hk : k < n) (hg : Cl w B (la k) (X k) ga) :
    Clones (w.setCell ⟨B, k, none⟩ (.slice ga (la k) c)) B n (k + 1) la X (cur.setIfInBounds k (.slice ga (la k) c)) := by
  obtain ⟨h1, h2, h3, h4⟩ := h
  have kk : Kept [B] w (w.setCell ⟨B, k, none⟩ (.slice ga (la k) c)) := (Kept.refl [B] w).setCell (p := ⟨B, k, none⟩) (Or.inl (by simp)) _
  refine ⟨heap_setCell_same h1 _, by simpa using h2, fun i hi => ?_, fun i hi => ?_⟩
  · simp only [Array.getElem?_setIfInBounds]
    by_cases e : k = i
    · subst e; rw [if_pos rfl, if_pos (by omega)]; exact ⟨_, _, _, rfl⟩
    · rw [if_neg e]; exact h3 i hi
  · simp only [Array.getElem?_setIfInBounds]
    by_cases e : k = i
    · subst e; rw [if_pos rfl, if_pos (by omega)]; exact ⟨_, _, rfl, hg.kept kk (fun g hg => by simp at hg; omega)⟩
    · rw [if_neg e]
      obtain ⟨ga', c', a, b⟩ := h4 i (by omega)
      exact ⟨ga', c', a, b.kept kk (fun g hg => by simp at hg; omega)⟩
theorem Clones.spot {w : World} {B n k j : Nat} {la : Nat → Nat} {X : Nat → Nat → Nat} {cur : Array Value} (h : Clones w B n k la X cur) (hj : j < n) : ∃ v, w.cell? ⟨B, j, none⟩ = some v ∧ w.frozen? ⟨B, j, none⟩ = false := by
  obtain ⟨h1, h2, _⟩ := h
  have hj' : j < cur.size := by omega
  exact ⟨cur[j], by rw [cell_of_heap h1]; simp [hj'], free_of_heap h1⟩

def mkQ (n : Nat) : Array Value := madeCells #[.slice none 0 0] n
theorem mkQ_size (n : Nat) : (mkQ n).size = n := by simp [mkQ, madeCells]
theorem make88 (n : Nat) (hn : n ≤ 1024) (w : World) : (Instr.makeSlice 88 (.int .i64 (n : Int)) (.int .i64 (n : Int))).run Yba.prog w = .ok (.slice (some ⟨w.heap.size, 0, none⟩) n n) (w.alloc (.cells (mkQ n) 84)) := by
  obtain ⟨i0, hi, hz0, hz1, hz2⟩ := info_parts info84
  rw [run_make w 88 84 i0 _ Yba.underlying88 hi hz0 .i64 .i64 n n (by omega) (by omega) (by rw [hz2]; omega) (by omega), hz1]
  simp [mkQ, Value.cells]
theorem make84 (n : Nat) (hn : n ≤ 140737488351232) (w : World) : (Instr.makeSlice 84 (.int .i64 ((n : Int) + 1)) (.int .i64 ((n : Int) + 1))).run Yba.prog w = .ok (.slice (some ⟨w.heap.size, 0, none⟩) (n + 1) (n + 1)) (w.alloc (.cells (madeCells #[.int .u8 0] (n + 1)) 5)) := by
  obtain ⟨i0, hi, hz0, hz1, hz2⟩ := info_parts infoU8
  rw [run_make w 84 5 i0 _ Yba.underlying84 hi hz0 .i64 .i64 ((n : Int) + 1) ((n : Int) + 1) (by omega) (by omega) (by rw [hz2]; omega) (by omega), hz1]
  simp [Value.cells]
theorem Clones.zero {w : World} {B n : Nat} {la : Nat → Nat} {X : Nat → Nat → Nat} (h : w.heap[B]? = some (.cells (mkQ n) 84)) : Clones w B n 0 la X (mkQ n) :=
  ⟨h, mkQ_size n, fun i hi => ⟨none, 0, 0, by simp [mkQ, madeCells, hi, Nat.mod_one]⟩, fun i hi => absurd hi (Nat.not_lt_zero i)⟩
end Go.Proofs.Ybulkcoda
