import Derived.Test.YbulkcobyFmtW05
namespace Go.Proofs.YbulkcobyFmt
open Go.RowKit Go.Extern.Stop Go.Stop Go.Extern

set_option maxRecDepth 100000 in
set_option maxHeartbeats 1000000 in
theorem literal_none (P S c L : Nat) (pos : Int) (w : World) (hc : w.cell? ⟨P, 8, none⟩ = some (.slice (some ⟨S, 0, none⟩) 0 c)) :
    Calls Ybaf.prog 18 #[.pointer (some ⟨P, 0, none⟩), .string ⟨#[79, 80]⟩, .agg #[.string ⟨#[120]⟩, .string ⟨#[121]⟩, .func (Fn.func 11) #[] #[.pointer (some ⟨L, 0, none⟩)]], .int .i64 pos] w fun e w' =>
      ∃ E, e = .returned (.tuple #[.float .f64 0, .iface 33 (.pointer (some ⟨E, 0, none⟩))]) ∧ ErrAt w' E pos ∧ w.heap.size ≤ E ∧ Kept [] w w' := by
  obtain ⟨T, hT⟩ := sprintfLitF
  unfold fmtLit at hT
  have hS := isS_mk
  have hP : P < w.heap.size := World.block_lt_of_cell? _ _ hc
  go_enter Ybaf.func18, Ybaf.ntmps18
  go_wp2
  go_ret2
  refine ⟨w.heap.size + 2, rfl, ?_, by omega, ?_⟩
  · exact errAt_mk rfl (by simp)
  · exact ((((Kept.refl _ w).alloc _).alloc _).alloc _).drew

set_option maxRecDepth 100000 in
set_option maxHeartbeats 1000000 in
theorem literal_bad (P S m c L lo v : Nat) (pos : Int) (w : World) (hm : m + 1 ≤ 1024) (hc : w.cell? ⟨P, 8, none⟩ = some (.slice (some ⟨S, 0, none⟩) (m + 1) c)) (hv : w.cell? ⟨S, m, none⟩ = some (.iface 26 (.float .f64 v))) (hL : w.cell? ⟨L, 0, none⟩ = some (.float .f64 lo)) (hg : geB v lo = false) :
    Calls Ybaf.prog 18 #[.pointer (some ⟨P, 0, none⟩), .string ⟨#[79, 80]⟩, .agg #[.string ⟨#[120]⟩, .string ⟨#[121]⟩, .func (Fn.func 11) #[] #[.pointer (some ⟨L, 0, none⟩)]], .int .i64 pos] w fun e w' =>
      ∃ E, e = .returned (.tuple #[.float .f64 0, .iface 33 (.pointer (some ⟨E, 0, none⟩))]) ∧ ErrAt w' E pos ∧ w.heap.size ≤ E ∧ Kept [] w w' := by
  obtain ⟨T, hT⟩ := sprintfLitF
  unfold fmtLit at hT
  have hS := isS_mk
  have hP : P < w.heap.size := World.block_lt_of_cell? _ _ hc
  have hSS : S < w.heap.size := World.block_lt_of_cell? _ _ hv
  have hLL : L < w.heap.size := World.block_lt_of_cell? _ _ hL
  have b0 : (0 : Int) < (m : Int) + 1 := by omega
  have b1 : (0 : Int) ≤ (m : Int) := by omega
  have b2 : (m : Int) < (m : Int) + 1 := by omega
  have b3 : (0 : Int) ≤ (m : Int) ∧ (m : Int) < (m : Int) + 1 := by omega
  have hwr : IntKind.i64.wrap (m : Int) = (m : Int) := by rw [IntKind.wrap_i64]; omega
  have hwr' : IntKind.i64.wrap ((m : Int) + 1 - 1) = (m : Int) := by rw [IntKind.wrap_i64]; omega
  go_enter Ybaf.func18, Ybaf.ntmps18
  go_wp2
  have hc' : (w.alloc (.cells #[.string ⟨#[120]⟩, .string ⟨#[121]⟩, .func (Fn.func 11) #[] #[.pointer (some ⟨L, 0, none⟩)]] 59)).cell? ⟨P, 8, none⟩ = some (.slice (some ⟨S, 0, none⟩) (m + 1) c) := ((Kept.refl [] w).alloc _).cellSome hc (by simp)
  have hv' : (w.alloc (.cells #[.string ⟨#[120]⟩, .string ⟨#[121]⟩, .func (Fn.func 11) #[] #[.pointer (some ⟨L, 0, none⟩)]] 59)).cell? ⟨S, m, none⟩ = some (.iface 26 (.float .f64 v)) := ((Kept.refl [] w).alloc _).cellSome hv (by simp)
  have hL' : (w.alloc (.cells #[.string ⟨#[120]⟩, .string ⟨#[121]⟩, .func (Fn.func 11) #[] #[.pointer (some ⟨L, 0, none⟩)]] 59)).cell? ⟨L, 0, none⟩ = some (.float .f64 lo) := ((Kept.refl [] w).alloc _).cellSome hL (by simp)
  have hk0 : Kept [] w (w.alloc (.cells #[.string ⟨#[120]⟩, .string ⟨#[121]⟩, .func (Fn.func 11) #[] #[.pointer (some ⟨L, 0, none⟩)]] 59)).drew := ((Kept.refl [] w).alloc _).drew
  have hb0 : (w.alloc (.cells #[.string ⟨#[120]⟩, .string ⟨#[121]⟩, .func (Fn.func 11) #[] #[.pointer (some ⟨L, 0, none⟩)]] 59)).cell? ⟨w.heap.size, 0, none⟩ = some (.string ⟨#[120]⟩) := by simp [go_sem]
  have hb1 : (w.alloc (.cells #[.string ⟨#[120]⟩, .string ⟨#[121]⟩, .func (Fn.func 11) #[] #[.pointer (some ⟨L, 0, none⟩)]] 59)).cell? ⟨w.heap.size, 1, none⟩ = some (.string ⟨#[121]⟩) := by simp [go_sem]
  have hb2 : (w.alloc (.cells #[.string ⟨#[120]⟩, .string ⟨#[121]⟩, .func (Fn.func 11) #[] #[.pointer (some ⟨L, 0, none⟩)]] 59)).cell? ⟨w.heap.size, 2, none⟩ = some (.func (Fn.func 11) #[] #[.pointer (some ⟨L, 0, none⟩)]) := by simp [go_sem]
  go_region_held3 (fun w' => w'.cell? ⟨P, 8, none⟩ = some (.slice (some ⟨S, 0, none⟩) (m + 1) c) ∧ w'.cell? ⟨S, m, none⟩ = some (.iface 26 (.float .f64 v)) ∧ w'.cell? ⟨w.heap.size, 0, none⟩ = some (.string ⟨#[120]⟩) ∧ w'.cell? ⟨w.heap.size, 1, none⟩ = some (.string ⟨#[121]⟩) ∧ w'.cell? ⟨w.heap.size, 2, none⟩ = some (.func (Fn.func 11) #[] #[.pointer (some ⟨L, 0, none⟩)]))
    (first | exact ⟨hc', hv', hb0, hb1, hb2⟩ | exact ⟨hk.cellSome hc' (by simp), hk.cellSome hv' (by simp), hk.cellSome hb0 (by simp), hk.cellSome hb1 (by simp), hk.cellSome hb2 (by simp)⟩)
    ((go_at_call 22; refine (read_any L lo v _ _ _ (by exact hL')).mono ?_; rintro e w1 ⟨rfl, hk⟩))
  go_wp2
  go_ret2
  have hz := hk.size
  simp at hz
  refine ⟨w1.heap.size + 1, rfl, errAt_mk rfl (by simp), by omega, ?_⟩
  exact (((hk0.trans hk).alloc _).alloc _).drew
set_option maxRecDepth 100000 in
set_option maxHeartbeats 1000000 in
theorem literal_ok (P S m c L lo v : Nat) (pos : Int) (w : World) (hm : m + 1 ≤ 1024) (hc : w.cell? ⟨P, 8, none⟩ = some (.slice (some ⟨S, 0, none⟩) (m + 1) c)) (hv : w.cell? ⟨S, m, none⟩ = some (.iface 26 (.float .f64 v))) (hmc : m + 1 ≤ c) (hf : w.frozen? ⟨P, 8, none⟩ = false) (hL : w.cell? ⟨L, 0, none⟩ = some (.float .f64 lo)) (hg : geB v lo = true) :
    Calls Ybaf.prog 18 #[.pointer (some ⟨P, 0, none⟩), .string ⟨#[79, 80]⟩, .agg #[.string ⟨#[120]⟩, .string ⟨#[121]⟩, .func (Fn.func 11) #[] #[.pointer (some ⟨L, 0, none⟩)]], .int .i64 pos] w fun e w' =>
      e = .returned (.tuple #[.float .f64 v, .nilIface]) ∧ Kept [P] w w' ∧ w'.cell? ⟨P, 8, none⟩ = some (.slice (some ⟨S, 0, none⟩) m c) ∧ w'.frozen? ⟨P, 8, none⟩ = false := by
  have hP : P < w.heap.size := World.block_lt_of_cell? _ _ hc
  have hSS : S < w.heap.size := World.block_lt_of_cell? _ _ hv
  have hLL : L < w.heap.size := World.block_lt_of_cell? _ _ hL
  have b0 : (0 : Int) < (m : Int) + 1 := by omega
  have b1 : (0 : Int) ≤ (m : Int) := by omega
  have b2 : (m : Int) < (m : Int) + 1 := by omega
  have b3 : (0 : Int) ≤ (m : Int) ∧ (m : Int) < (m : Int) + 1 := by omega
  have hwr : IntKind.i64.wrap (m : Int) = (m : Int) := by rw [IntKind.wrap_i64]; omega
  have hwr' : IntKind.i64.wrap ((m : Int) + 1 - 1) = (m : Int) := by rw [IntKind.wrap_i64]; omega
  obtain ⟨i0, hi, hz0, hz1, hz2⟩ := info_parts info41
  have hsh : ∀ w, (Instr.slice 39 (.slice (some ⟨S, 0, none⟩) (m + 1) c) none (some (.int .i64 (m : Int))) none).run Ybaf.prog w = .ok (.slice (some ⟨S, 0, none⟩) m c) w := fun w =>
    slice_high w Ybaf.underlying39 hi S 0 (m + 1) c m _ rfl (by omega)
  clear hi hz0 hz1 hz2
  go_enter Ybaf.func18, Ybaf.ntmps18
  go_wp2
  have hc' : (w.alloc (.cells #[.string ⟨#[120]⟩, .string ⟨#[121]⟩, .func (Fn.func 11) #[] #[.pointer (some ⟨L, 0, none⟩)]] 59)).cell? ⟨P, 8, none⟩ = some (.slice (some ⟨S, 0, none⟩) (m + 1) c) := ((Kept.refl [] w).alloc _).cellSome hc (by simp)
  have hv' : (w.alloc (.cells #[.string ⟨#[120]⟩, .string ⟨#[121]⟩, .func (Fn.func 11) #[] #[.pointer (some ⟨L, 0, none⟩)]] 59)).cell? ⟨S, m, none⟩ = some (.iface 26 (.float .f64 v)) := ((Kept.refl [] w).alloc _).cellSome hv (by simp)
  have hL' : (w.alloc (.cells #[.string ⟨#[120]⟩, .string ⟨#[121]⟩, .func (Fn.func 11) #[] #[.pointer (some ⟨L, 0, none⟩)]] 59)).cell? ⟨L, 0, none⟩ = some (.float .f64 lo) := ((Kept.refl [] w).alloc _).cellSome hL (by simp)
  have hk0 : Kept [] w (w.alloc (.cells #[.string ⟨#[120]⟩, .string ⟨#[121]⟩, .func (Fn.func 11) #[] #[.pointer (some ⟨L, 0, none⟩)]] 59)).drew := ((Kept.refl [] w).alloc _).drew
  have hb0 : (w.alloc (.cells #[.string ⟨#[120]⟩, .string ⟨#[121]⟩, .func (Fn.func 11) #[] #[.pointer (some ⟨L, 0, none⟩)]] 59)).cell? ⟨w.heap.size, 0, none⟩ = some (.string ⟨#[120]⟩) := by simp [go_sem]
  have hb1 : (w.alloc (.cells #[.string ⟨#[120]⟩, .string ⟨#[121]⟩, .func (Fn.func 11) #[] #[.pointer (some ⟨L, 0, none⟩)]] 59)).cell? ⟨w.heap.size, 1, none⟩ = some (.string ⟨#[121]⟩) := by simp [go_sem]
  have hb2 : (w.alloc (.cells #[.string ⟨#[120]⟩, .string ⟨#[121]⟩, .func (Fn.func 11) #[] #[.pointer (some ⟨L, 0, none⟩)]] 59)).cell? ⟨w.heap.size, 2, none⟩ = some (.func (Fn.func 11) #[] #[.pointer (some ⟨L, 0, none⟩)]) := by simp [go_sem]
  go_region_held3 (fun w' => w'.cell? ⟨P, 8, none⟩ = some (.slice (some ⟨S, 0, none⟩) (m + 1) c) ∧ w'.cell? ⟨S, m, none⟩ = some (.iface 26 (.float .f64 v)) ∧ w'.cell? ⟨w.heap.size, 0, none⟩ = some (.string ⟨#[120]⟩) ∧ w'.cell? ⟨w.heap.size, 1, none⟩ = some (.string ⟨#[121]⟩) ∧ w'.cell? ⟨w.heap.size, 2, none⟩ = some (.func (Fn.func 11) #[] #[.pointer (some ⟨L, 0, none⟩)]))
    (first | exact ⟨hc', hv', hb0, hb1, hb2⟩ | exact ⟨hk.cellSome hc' (by simp), hk.cellSome hv' (by simp), hk.cellSome hb0 (by simp), hk.cellSome hb1 (by simp), hk.cellSome hb2 (by simp)⟩)
    ((go_at_call 22; refine (read_any L lo v _ _ _ (by exact hL')).mono ?_; rintro e w1 ⟨rfl, hk⟩))
  have hc1 : w1.cell? ⟨P, 8, none⟩ = some (.slice (some ⟨S, 0, none⟩) (m + 1) c) := hk.cellSome hc' (by simp)
  have hf1 : w1.frozen? ⟨P, 8, none⟩ = false := ((hk0.trans hk).frozen hP (by simp)).trans hf
  have hk1 : Kept [] w w1 := hk0.trans hk
  clear hk hk0 hc' hv' hL' hb0 hb1 hb2 hc hv hL hf
  go_wp2
  go_region
  all_goals (go_wp2; go_ret2)
  refine ⟨rfl, ?_, ?_, ?_⟩
  · exact ((hk1.weaken (by simp)).setCell (p := ⟨P, 8, none⟩) (Or.inl (by simp)) _).drew
  · exact World.cell?_setCell_same _ _ _ hc1
  · exact (World.frozen?_setCell _ _ _ _).trans hf1
end Go.Proofs.YbulkcobyFmt
