import Derived.Test.YbulkcodaZ6
namespace Go.Proofs.Ybulkcoda
open Go.RowKit

theorem info31 : (Yba.prog.info? 31).map (fun i => (i.zero, i.size, i.bytes)) = some (some (.agg #[.float .f64 0, .nilFunc]), 2, 16) := by kernel_rfl
def mkJ (n : Nat) : Array Value := madeCells #[.float .f64 0, .nilFunc] (n * 2)
theorem mkJ_size (n : Nat) : (mkJ n).size = n * 2 := by simp [mkJ, madeCells]
theorem make27 (n : Nat) (hn : n ≤ 1024) (w : World) : (Instr.makeSlice 27 (.int .i64 (n : Int)) (.int .i64 (n : Int))).run Yba.prog w = .ok (.slice (some ⟨w.heap.size, 0, none⟩) n n) (w.alloc (.cells (mkJ n) 31)) := by
  obtain ⟨i0, hi, hz0, hz1, hz2⟩ := info_parts info31
  rw [run_make w 27 31 i0 _ Yba.underlying27 hi hz0 .i64 .i64 n n (by omega) (by omega) (by rw [hz2]; omega) (by omega), hz1]
  simp [mkJ, Value.cells]

/-- A new simulation's cells. -/
def zSim : Array Value := #[.float .f64 0, .slice none 0 0, .int .u64 0, .float .f64 0, .float .f64 0, .float .f64 0, .float .f64 0, .float .f64 0, .float .f64 0, .bool false, .slice none 0 0, .nilIface, .nilIface, .map none, .int .i64 0, .float .f64 0, .int .i64 0, .int .i64 0, .int .i64 0, .int .i64 0, .int .i64 0, .int .i64 0, .int .i64 0, .float .f64 0, .float .f64 0, .int .u64 0, .float .f64 0, .float .f64 0, .float .f64 0, .float .f64 0, .float .f64 0, .float .f64 0, .float .f64 0, .float .f64 0, .float .f64 0, .float .f64 0, .float .f64 0, .float .f64 0, .float .f64 0, .float .f64 0, .float .f64 0, .float .f64 0, .float .f64 0, .float .f64 0, .float .f64 0, .float .f64 0, .float .f64 0, .float .f64 0, .float .f64 0, .float .f64 0, .float .f64 0, .float .f64 0, .float .f64 0, .float .f64 0, .float .f64 0, .float .f64 0, .float .f64 0, .float .f64 0, .float .f64 0, .float .f64 0, .float .f64 0, .float .f64 0, .float .f64 0, .float .f64 0, .float .f64 0, .float .f64 0, .slice none 0 0, .pointer none, .int .i64 0, .int .i64 0, .float .f64 0]
theorem zSim_run (w : World) : (zeroValue 55).run Yba.prog w = .ok (.agg zSim) w := by kernel_rfl
theorem zSim_ne : ¬ zSim = #[] := fun h => by
  have : zSim.size = 71 := rfl
  rw [h] at this
  simp at this
theorem Sim.new {w : World} {S now : Nat} (h : w.heap[S]? = some (.cells (zSim.setIfInBounds 0 (.float .f64 now)) 55)) : Sim w S now (.slice none 0 0) (.int .u64 0) .nilIface := by
  refine ⟨_, h, by rw [Array.size_setIfInBounds]; rfl, ?_, ?_, ?_, ?_⟩
  · rw [Array.getElem?_setIfInBounds, if_pos rfl, if_pos (by decide)]
  · rw [Array.getElem?_setIfInBounds, if_neg (by decide)]; rfl
  · rw [Array.getElem?_setIfInBounds, if_neg (by decide)]; rfl
  · rw [Array.getElem?_setIfInBounds, if_neg (by decide)]; rfl

/-- The server's end as the law lays it. -/
def EndIs (L : Nat) (he : Bool) (e : Value) : Prop := (he = false ∧ e = .nilFunc) ∨ (he = true ∧ e = .func (Fn.func 10) #[] #[.pointer (some ⟨L, 0, none⟩)])

theorem lay4 (w : World) (o1 o2 o3 o4 : Obj) : ((((w.alloc o1).alloc o2).alloc o3).alloc o4).heap[w.heap.size]? = some o1 ∧ ((((w.alloc o1).alloc o2).alloc o3).alloc o4).heap[w.heap.size + 1]? = some o2 ∧
    ((((w.alloc o1).alloc o2).alloc o3).alloc o4).heap[w.heap.size + 1 + 1]? = some o3 ∧ ((((w.alloc o1).alloc o2).alloc o3).alloc o4).heap[w.heap.size + 1 + 1 + 1]? = some o4 ∧
    ((((w.alloc o1).alloc o2).alloc o3).alloc o4).heap.size = w.heap.size + 1 + 1 + 1 + 1 ∧ Below w.heap.size w ((((w.alloc o1).alloc o2).alloc o3).alloc o4) := by
  have h1 := (MapKept.heap_alloc w o1).1
  have h2 := (MapKept.heap_alloc (w.alloc o1) o2).1
  have h3 := (MapKept.heap_alloc ((w.alloc o1).alloc o2) o3).1
  have h4 := (MapKept.heap_alloc (((w.alloc o1).alloc o2).alloc o3) o4).1
  simp only [World.size_alloc] at h2 h3 h4
  refine ⟨?_, ?_, ?_, h4, by simp, ((((Below.refl _ w).alloc (Nat.le_refl _) o1).alloc (by simp only [World.size_alloc]; omega) o2).alloc (by simp only [World.size_alloc]; omega) o3).alloc (by simp only [World.size_alloc]; omega) o4⟩
  · exact (Below.heap_alloc _ _ _ (by simp only [World.size_alloc]; omega)).trans ((Below.heap_alloc _ _ _ (by simp only [World.size_alloc]; omega)).trans ((Below.heap_alloc _ _ _ (by simp only [World.size_alloc]; omega)).trans h1))
  · exact (Below.heap_alloc _ _ _ (by simp only [World.size_alloc]; omega)).trans ((Below.heap_alloc _ _ _ (by simp only [World.size_alloc]; omega)).trans h2)
  · exact (Below.heap_alloc _ _ _ (by simp only [World.size_alloc]; omega)).trans h3

/-- The queue while it is filled: the jobs below k stand; K i: where job i keeps its number. -/
def Jobs (w : World) (L Q n k : Nat) (E : Nat → Nat) : Prop := ∃ cur : Array Value, w.heap[Q]? = some (.cells cur 31) ∧ cur.size = n * 2 ∧
  ∀ i, i < k → cur[i * 2]? = some (.float .f64 (E i)) ∧ ∃ K, cur[i * 2 + 1]? = some (.func (Fn.func 8) #[] #[.pointer (some ⟨L, 0, none⟩), .pointer (some ⟨K, 0, none⟩)]) ∧ w.heap[K]? = some (.cells #[.int .i64 (i : Nat)] 3)
theorem Jobs.zero {w : World} {L Q n : Nat} {E : Nat → Nat} (h : w.heap[Q]? = some (.cells (mkJ n) 31)) : Jobs w L Q n 0 E := ⟨_, h, mkJ_size n, fun i hi => absurd hi (Nat.not_lt_zero i)⟩
theorem Jobs.lt {w : World} {L Q n k : Nat} {E : Nat → Nat} (h : Jobs w L Q n k E) : Q < w.heap.size := by
  obtain ⟨cur, h1, _⟩ := h
  exact lt_of_block h1
theorem Jobs.spot {w : World} {L Q n k j : Nat} {E : Nat → Nat} (h : Jobs w L Q n k E) (hj : j < n * 2) : ∃ v, w.cell? ⟨Q, j, none⟩ = some v ∧ w.frozen? ⟨Q, j, none⟩ = false := by
  obtain ⟨cur, h1, h2, _⟩ := h
  have hj' : j < cur.size := by omega
  exact ⟨cur[j], by rw [cell_of_heap h1]; simp [hj'], free_of_heap h1⟩
theorem Jobs.step {w : World} {L Q n k : Nat} {E : Nat → Nat} (h : Jobs w L Q n k E) (hk : k < n) :
    Jobs ((((w.alloc (.cells #[.int .i64 (k : Nat)] 3)).setCell ⟨Q, k * 2, none⟩ (.float .f64 (E k))).setCell ⟨Q, k * 2 + 1, none⟩ (.func (Fn.func 8) #[] #[.pointer (some ⟨L, 0, none⟩), .pointer (some ⟨w.heap.size, 0, none⟩)])).drew) L Q n (k + 1) E := by
  obtain ⟨cur, h1, h2, h3⟩ := h
  have lQ := lt_of_block h1
  have g1 : (w.alloc (.cells #[.int .i64 (k : Nat)] 3)).heap[Q]? = some (.cells cur 31) := (Below.heap_alloc _ _ _ lQ).trans h1
  have kk : Kept [Q] w ((((w.alloc (.cells #[.int .i64 (k : Nat)] 3)).setCell ⟨Q, k * 2, none⟩ (.float .f64 (E k))).setCell ⟨Q, k * 2 + 1, none⟩ (.func (Fn.func 8) #[] #[.pointer (some ⟨L, 0, none⟩), .pointer (some ⟨w.heap.size, 0, none⟩)])).drew) :=
    ((((Kept.refl [Q] w).alloc _).setCell (p := ⟨Q, k * 2, none⟩) (Or.inl (by simp)) _).setCell (p := ⟨Q, k * 2 + 1, none⟩) (Or.inl (by simp)) _).drew
  refine ⟨_, heap_setCell_same (heap_setCell_same g1 _) _, by simpa using h2, fun i hi => ?_⟩
  simp only [Array.getElem?_setIfInBounds, Array.size_setIfInBounds]
  by_cases e : i = k
  · subst e
    refine ⟨?_, w.heap.size, ?_, ?_⟩
    · rw [if_neg (by omega), if_pos rfl, if_pos (by omega)]
    · rw [if_pos rfl, if_pos (by omega)]
    · exact (Below.heap_setCell _ _ _ _ (by simp; omega)).trans ((Below.heap_setCell _ _ _ _ (by simp; omega)).trans (MapKept.heap_alloc w _).1)
  · obtain ⟨a, K, b, hK⟩ := h3 i (by omega)
    refine ⟨?_, K, ?_, (kk.block K (lt_of_block hK) (by simp; intro e; subst e; rw [h1] at hK; simp at hK)).trans hK⟩
    · rw [if_neg (by omega), if_neg (by omega)]; exact a
    · rw [if_neg (by omega), if_neg (by omega)]; exact b
theorem Jobs.kept {ex : List Nat} {w w' : World} {L Q n k : Nat} {E : Nat → Nat} (h : Jobs w L Q n k E) (hk : Kept ex w w') (he : ∀ b cur t fr, b ∈ ex → w.heap[b]? = some (.cells cur t fr) → t ≠ 31 ∧ t ≠ 3) : Jobs w' L Q n k E := by
  obtain ⟨cur, h1, h2, h3⟩ := h
  refine ⟨cur, (hk.block Q (lt_of_block h1) (fun hm => (he Q _ _ _ hm h1).1 rfl)).trans h1, h2, fun i hi => ?_⟩
  obtain ⟨a, K, b, c⟩ := h3 i hi
  exact ⟨a, K, b, (hk.block K (lt_of_block c) (fun hm => (he K _ _ _ hm c).2 rfl)).trans c⟩

/-- BeforeHorizon of a result that may be a NaN. -/
def bef (o : Option Nat) : Bool := match o with
  | some u => before u
  | none => false
theorem before_res {o : Option Nat} {u : Nat} (h : Res o u) : before u = bef o := by
  cases o with
  | some v => obtain rfl : u = v := h; rfl
  | none => simp [bef, before, nan_order_left (show NaN64 u from h)]

theorem AtRes.kept {ex : List Nat} {w w' : World} {S now t : Nat} {fn : Value} (h : AtRes w S now t fn) (k : Kept ex w w') (he : ∀ b cur ty fr, b ∈ ex → w.heap[b]? = some (.cells cur ty fr) → ty ≠ 55 ∧ ty ≠ 59 ∧ ty ≠ 63) : AtRes w' S now t fn := by
  have hs : ∀ {ev sc er : Value}, Sim w S now ev sc er → Sim w' S now ev sc er := fun {ev sc er} hS => hS.kept k (fun hm => by
    obtain ⟨cur, h1, _⟩ := hS
    exact (he S _ _ _ hm h1).1 rfl)
  rcases h with ⟨h0, ev, h1, g, cap, cur, h2, h3, h4⟩ | ⟨h0, T, h1, h2⟩
  · exact Or.inl ⟨h0, ev, hs h1, g, cap, cur, h2, (k.block g (lt_of_block h3) (fun hm => (he g _ _ _ hm h3).2.1 rfl)).trans h3, h4⟩
  · exact Or.inr ⟨h0, T, hs h1, (k.block T (lt_of_block h2) (fun hm => (he T _ _ _ hm h2).2.2 rfl)).trans h2⟩
theorem tag_eq {w : World} {b : Nat} {c1 c2 : Array Value} {t1 t2 : TypeId} {f1 f2 : Nat × Nat} (h : w.heap[b]? = some (.cells c1 t1 f1)) (k : w.heap[b]? = some (.cells c2 t2 f2)) : t1 = t2 := by
  rw [h] at k
  injection k with k
  injection k
end Go.Proofs.Ybulkcoda
