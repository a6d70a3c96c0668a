import Derived.Test.YbulkcobyFmtW12
namespace Go.Proofs.YbulkcobyFmt
open Go.RowKit Go.Extern.Stop Go.Stop Go.Extern

set_option maxHeartbeats 400000 in
theorem ceq_zero (S c vc : Nat) (va : Option Addr) (w : World) :
    Calls Ybaf.prog 14 #[.slice (some ⟨S, 0, none⟩) 0 c, .slice va 0 vc] w fun e w' => e = .returned (.bool true) ∧ ∃ q, w' = w.drewN q := by
  go_enter Ybaf.func14, Ybaf.ntmps14
  go_wp2
  refine wp_loop_rounds 1 ?_
  rw [rounds_succ]
  go_wp2
  go_ret
  exact ⟨rfl, 0, rfl⟩

/-- The slice value va, of n float64s, reads as the first n of vs. -/
def Floats (w : World) (va : Option Addr) (n : Nat) (vs : List Nat) : Prop := n = 0 ∨ ∃ V off, va = some ⟨V, off, none⟩ ∧ ∀ j, j < n → w.cell? ⟨V, off + j, none⟩ = some (.float .f64 (vs.getD j 0))

theorem ceq_any (S n c vc : Nat) (va : Option Addr) (vs : List Nat) (w : World) (hn : n ≤ 1024) (hs : ∀ j, j < n → w.cell? ⟨S, j, none⟩ = some (.iface 26 (.float .f64 (vs.getD j 0)))) (hv : Floats w va n vs) :
    Calls Ybaf.prog 14 #[.slice (some ⟨S, 0, none⟩) n c, .slice va n vc] w fun e w' => e = .returned (.bool true) ∧ ∃ q, w' = w.drewN q := by
  rcases hv with rfl | ⟨V, off, rfl, h⟩
  · exact ceq_zero S c vc va w
  · exact ceq_some S V off n c vc vs w hn hs h

def mk0 (m : Nat) : Array Value := madeCells #[.nilIface] m
theorem mk0_size (m : Nat) : (mk0 m).size = m := by simp [mk0, madeCells]

theorem make39 (m : Nat) (hm : m ≤ 1024) (w : World) : (Instr.makeSlice 39 (.int .i64 (m : Int)) (.int .i64 (m : Int))).run Ybaf.prog w = .ok (.slice (some ⟨w.heap.size, 0, none⟩) m m) (w.alloc (.cells (mk0 m) 41)) := by
  obtain ⟨i0, hi, hz0, hz1, hz2⟩ := info_parts info41
  rw [run_make w 39 41 i0 .nilIface Ybaf.underlying39 hi hz0 .i64 .i64 m m (by omega) (by omega) (by rw [hz2]; omega) (by omega), hz1]
  simp [mk0, Value.cells]

/-- The stack while it is filled. -/
def Filled (w : World) (B m k : Nat) (vs : List Nat) : Prop := ∃ cur : Array Value, w.heap[B]? = some (.cells cur 41) ∧ cur.size = m ∧ ∀ j, j < k → cur[j]? = some (.iface 26 (.float .f64 (vs.getD j 0)))

theorem Filled.zero {w : World} {B m : Nat} {vs : List Nat} (h : w.heap[B]? = some (.cells (mk0 m) 41)) : Filled w B m 0 vs := ⟨mk0 m, h, mk0_size m, fun j hj => absurd hj (Nat.not_lt_zero j)⟩
theorem Filled.spot {w : World} {B m k j : Nat} {vs : List Nat} (h : Filled w B m k vs) (hj : j < m) : ∃ v, w.cell? ⟨B, j, none⟩ = some v ∧ w.frozen? ⟨B, j, none⟩ = false := by
  obtain ⟨cur, h1, h2, _⟩ := h
  have hj' : j < cur.size := by omega
  exact ⟨cur[j], by simp [World.cell?, h1, hj'], by simp [World.frozen?, h1]⟩
theorem Filled.step {w : World} {B m k : Nat} {vs : List Nat} (h : Filled w B m k vs) (hk : k < m) : Filled (w.setCell ⟨B, k, none⟩ (.iface 26 (.float .f64 (vs.getD k 0)))) B m (k + 1) vs := by
  obtain ⟨cur, h1, h2, h3⟩ := h
  refine ⟨cur.setIfInBounds k (.iface 26 (.float .f64 (vs.getD k 0))), ?_, by simpa using h2, ?_⟩
  · have hlt := lt_of_block h1
    have h' : w.heap[B] = .cells cur 41 (0, 0) := by simpa [Array.getElem?_eq_getElem hlt] using h1
    show (w.heap.modify B _)[B]? = _
    rw [Array.getElem?_eq_getElem (by simpa using hlt), Array.getElem_modify_self, h']
    rfl
  · intro j hj
    rw [Array.getElem?_setIfInBounds]
    by_cases e : k = j
    · subst e; rw [if_pos rfl, if_pos (by omega)]
    · rw [if_neg e]; exact h3 j (by omega)
/-- The numbers as nodes. -/
def nodes (vs : List Nat) (m : Nat) : List Value := (List.range m).map fun j => .iface 26 (.float .f64 (vs.getD j 0))
theorem nodes_length (vs : List Nat) (m : Nat) : (nodes vs m).length = m := by simp [nodes]
theorem nodes_get {vs : List Nat} {m j : Nat} (h : j < m) : (nodes vs m)[j]? = some (.iface 26 (.float .f64 (vs.getD j 0))) := by simp [nodes, h]
theorem nodes_one {vs : List Nat} {m : Nat} : ∀ u ∈ nodes vs m, u.oneCell' = true := by
  intro u hu
  simp [nodes] at hu
  obtain ⟨j, _, rfl⟩ := hu
  rfl
theorem Filled.row {w : World} {B m : Nat} {vs : List Nat} (h : Filled w B m m vs) : Row w B (nodes vs m) := by
  obtain ⟨cur, h1, h2, h3⟩ := h
  refine ⟨cur, h1, by rw [nodes_length]; omega, ?_⟩
  rw [nodes_length]
  apply List.ext_getElem?
  intro j
  rw [List.getElem?_take]
  by_cases hj : j < m
  · rw [if_pos hj, nodes_get hj]; simpa using h3 j hj
  · rw [if_neg hj, List.getElem?_eq_none (by rw [nodes_length]; omega)]
theorem Floats.kept {w w' : World} {va : Option Addr} {n : Nat} {vs : List Nat} (h : Floats w va n vs) (hb : Below w.heap.size w w') : Floats w' va n vs := by
  rcases h with h | ⟨V, off, h1, h2⟩
  · exact Or.inl h
  · exact Or.inr ⟨V, off, h1, fun j hj => (hb.cell (World.block_lt_of_cell? _ _ (h2 j hj))).trans (h2 j hj)⟩

theorem info25 : (Ybaf.prog.info? 25).map (fun i => (i.zero, i.size, i.bytes)) = some (some (.float .f64 0), 1, 8) := by kernel_rfl
theorem slice38_high (w : World) (va : Option Addr) (m c h : Nat) (hl : h ≤ c) : (Instr.slice 38 (.slice va m c) none (some (.int .i64 (h : Int))) none).run Ybaf.prog w =
    .ok (.slice va h c) w := by
  obtain ⟨i0, hi, _, _, _⟩ := info_parts info25
  cases va with
  | none => simp [Instr.slice, run_underlying Ybaf.underlying38, Instr.sliceBounds, run_sliceBound, sizeOf, typeInfo, hi, hl]
  | some a => simp [Instr.slice, run_underlying Ybaf.underlying38, Instr.sliceBounds, run_sliceBound, sizeOf, typeInfo, hi, hl, Addr.add]

set_option maxRecDepth 100000 in
set_option maxHeartbeats 1000000 in
theorem apply_f1 (va : Option Addr) (m vc l : Nat) (a pos : Int) (vs : List Nat) (w : World) (hm : m ≤ 1024) (hkc : m ≤ vc) (hv : Floats w va m vs) (ha0 : 0 ≤ a) (ha1 : a ≤ 255) (hlt : (m : Int) < a % 6) :
    Calls Ybaf.prog 5 #[.slice va m vc, .int .u8 a, .bool false, .float .f64 l, .int .i64 pos] w fun e w' => e = .returned (.bool true) ∧ Below w.heap.size w w' := by
  have hmk := fun w => make39 m hm w
  have hd : decide ((1024 : Int) < (m : Int)) = false := by simp; omega
  have hmf : ∀ (fn : Fn) (first cap : Array Value) (w : World), (Instr.makeFunc fn first cap).run Ybaf.prog w = .ok (.func fn first cap) w := fun _ _ _ _ => rfl
  go_enter Ybaf.func5, Ybaf.ntmps5
  go_wp2
  have k1 : Kept [] w ((w.alloc (.cells #[.float .f64 l] 25)).alloc (.cells (mk0 m) 41)) := ((Kept.refl [] w).alloc _).alloc _
  have f0 : Filled ((w.alloc (.cells #[.float .f64 l] 25)).alloc (.cells (mk0 m) 41)) (w.heap.size + 1) m 0 vs := Filled.zero (by have h := (MapKept.heap_alloc (w.alloc (.cells #[.float .f64 l] 25)) (.cells (mk0 m) 41)).1; rwa [World.size_alloc] at h)
  have hlo : ((w.alloc (.cells #[.float .f64 l] 25)).alloc (.cells (mk0 m) 41)).cell? ⟨w.heap.size, 0, none⟩ = some (.float .f64 l) := by simp [go_sem]
  go_loopw [34] (fun i wr => ∃ k : Nat, k ≤ m ∧ i = .int .i64 k ∧ Filled wr (w.heap.size + 1) m k vs ∧ Kept [w.heap.size + 1] ((w.alloc (.cells #[.float .f64 l] 25)).alloc (.cells (mk0 m) 41)) wr) (fun i _ => m - (intOf i).toNat)
  case atStart => exact ⟨0, Nat.zero_le _, rfl, f0, Kept.refl _ _⟩
  case round =>
    obtain ⟨k, hk, rfl, hfl, hkr⟩ := hrel
    have hbw : Below w.heap.size w wr := (k1.below (Nat.le_refl _) (by simp)).trans (hkr.below (by simp; omega) (by simp))
    have hvr := hv.kept hbw
    by_cases hkm : k < m
    · obtain ⟨V, off, rfl, hcv⟩ : ∃ V off, va = some ⟨V, off, none⟩ ∧ ∀ j, j < m → wr.cell? ⟨V, off + j, none⟩ = some (.float .f64 (vs.getD j 0)) := by
        rcases hvr with h | h
        · omega
        · exact h
      have hc := hcv k hkm
      obtain ⟨v0, hs, hsf⟩ := hfl.spot hkm
      have b1 : (0 : Int) ≤ (k : Int) := by omega
      have b2 : (k : Int) < (m : Int) := by omega
      have hst := hfl.step hkm
      have hkk : Kept [w.heap.size + 1] ((w.alloc (.cells #[.float .f64 l] 25)).alloc (.cells (mk0 m) 41)) (wr.setCell ⟨w.heap.size + 1, k, none⟩ (.iface 26 (.float .f64 (vs.getD k 0)))) := hkr.setCell (p := ⟨w.heap.size + 1, k, none⟩) (Or.inl (by simp)) _
      clear hcv hvr hfl hbw hv hkr
      go_wp2
      go_roundw
      case rel => exact ⟨k + 1, by omega, by go_num, hst, hkk⟩
      case measure => simp [intOf]; omega
    · obtain rfl : k = m := by omega
      have hrow := hfl.row
      have lB : w.heap.size + 1 < wr.heap.size := hrow.lt
      clear f0 k1 hkr hv
      go_wp2_with fail
      refine (grid_err _ (w.heap.size + 1) k k _ _ _ _ (a % 6) pos _ ?_ hlt).mono ?_
      · simp [go_sem]
      rintro e w2 ⟨E, rfl, hE, hsz, hk2⟩
      have kw : Kept [] wr w2 := Kept.trans (by repeat (first | exact Kept.refl _ _ | apply Kept.alloc)) hk2
      have cP := hk2.cellSome (p := ⟨wr.heap.size, 8, none⟩) (v := .slice (some ⟨w.heap.size + 1, 0, none⟩) k k) (by simp [go_sem]) (by simp)
      have cC := hk2.cellSome (p := ⟨wr.heap.size + 1, 0, none⟩) (v := .int .i64 0) (by simp [go_sem]) (by simp)
      have cR := hk2.cellSome (p := ⟨wr.heap.size + 1 + 1 + 1 + 1 + 1, 0, none⟩) (v := .int .i64 (a % 6)) (by simp [go_sem]) (by simp)
      have hb2 : Below w.heap.size w w2 := hbw.trans (kw.below (by omega) (by simp))
      have hv2 := hvr.kept (kw.below (Nat.le_refl _) (by simp))
      have hr2 := hrow.kept kw (by simp)
      have hs2 : ∀ j, j < k → w2.cell? ⟨w.heap.size + 1, j, none⟩ = some (.iface 26 (.float .f64 (vs.getD j 0))) := fun j hj => hr2.cell j _ (nodes_get hj)
      have hsl : ∀ w, (Instr.slice 38 (.slice va k vc) none (some (.int .i64 (k : Int))) none).run Ybaf.prog w = .ok (.slice va k vc) w := fun w => slice38_high w va k vc k hkc
      clear hk2 kw hvr hrow hr2 hfl hbw
      go_wp2
      go_quiet ((first | (go_at_call 13; exact Calls.quiet_of_same (syntax_any _ _ _ hE)) | (go_at_call 14; exact Calls.quiet_of (ceq_any _ _ _ _ _ vs _ hm hs2 hv2))))
      go_wp2
      go_ret
      exact ⟨rfl, below_drewN hb2 _⟩
end Go.Proofs.YbulkcobyFmt
