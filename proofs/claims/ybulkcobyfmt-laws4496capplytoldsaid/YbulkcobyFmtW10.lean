import Derived.Test.YbulkcobyFmtW08
namespace Go.Proofs.YbulkcobyFmt
open Go.RowKit Go.Extern.Stop Go.Stop Go.Extern

theorem run_neq_ptr_some (w : World) (b : Nat) : (binOp .neq 54 (.pointer (some ⟨b, 0, none⟩)) (.pointer none)).run Ybaf.prog w = .ok (.bool true) w := by kernel_rfl

set_option maxRecDepth 100000 in
set_option maxHeartbeats 1000000 in
theorem grid_err (P S m c C GB GA GL : Nat) (n pos : Int) (w : World) (hc : w.cell? ⟨P, 8, none⟩ = some (.slice (some ⟨S, 0, none⟩) m c)) (hlt : (m : Int) < n) :
    Calls Ybaf.prog 12 #[.pointer (some ⟨P, 0, none⟩), .string ⟨#[79, 80]⟩, .agg #[.int .i64 n, .pointer none, .func (Fn.func 9) #[] #[.pointer (some ⟨C, 0, none⟩), .pointer (some ⟨GB, 0, none⟩), .pointer (some ⟨GA, 0, none⟩), .pointer (some ⟨GL, 0, none⟩)]], .int .i64 pos] w fun e w' => ∃ E, e = .returned (.iface 33 (.pointer (some ⟨E, 0, none⟩))) ∧ ErrAt w' E pos ∧ w.heap.size ≤ E ∧ Kept [] w w' := by
  have hP : P < w.heap.size := World.block_lt_of_cell? _ _ hc
  go_enter Ybaf.func12, Ybaf.ntmps12
  go_wp2_with fail
  have kb : Kept [] w (w.alloc (.cells #[.int .i64 n, .pointer none, .func (Fn.func 9) #[] #[.pointer (some ⟨C, 0, none⟩), .pointer (some ⟨GB, 0, none⟩), .pointer (some ⟨GA, 0, none⟩), .pointer (some ⟨GL, 0, none⟩)]] 56)) := (Kept.refl [] w).alloc _
  refine (pop_err P S m c n pos _ (kb.cellSome hc (by simp)) hlt).mono ?_
  rintro e w1 ⟨E, rfl, hE, hsz, hk⟩
  have hz := kb.size
  go_wp2
  go_ret
  exact ⟨E, rfl, hE, by omega, kb.trans hk⟩

set_option maxRecDepth 100000 in
set_option maxHeartbeats 1000000 in
theorem grid_lit_none (P S c L LB C GB GA GL : Nat) (k pos : Int) (w : World) (hc : w.cell? ⟨P, 8, none⟩ = some (.slice (some ⟨S, 0, none⟩) 0 c)) (hl0 : w.cell? ⟨LB, 0, none⟩ = some (.string ⟨#[120]⟩)) (hl1 : w.cell? ⟨LB, 1, none⟩ = some (.string ⟨#[121]⟩)) (hl2 : w.cell? ⟨LB, 2, none⟩ = some (.func (Fn.func 11) #[] #[.pointer (some ⟨L, 0, none⟩)])) :
    Calls Ybaf.prog 12 #[.pointer (some ⟨P, 0, none⟩), .string ⟨#[79, 80]⟩, .agg #[.int .i64 k, .pointer (some ⟨LB, 0, none⟩), .func (Fn.func 9) #[] #[.pointer (some ⟨C, 0, none⟩), .pointer (some ⟨GB, 0, none⟩), .pointer (some ⟨GA, 0, none⟩), .pointer (some ⟨GL, 0, none⟩)]], .int .i64 pos] w fun e w' => ∃ E, e = .returned (.iface 33 (.pointer (some ⟨E, 0, none⟩))) ∧ ErrAt w' E pos ∧ w.heap.size ≤ E ∧ Kept [] w w' := by
  have hP : P < w.heap.size := World.block_lt_of_cell? _ _ hc
  have hLB : LB < w.heap.size := World.block_lt_of_cell? _ _ hl0
  have hq := run_neq_ptr_some
  go_enter Ybaf.func12, Ybaf.ntmps12
  go_wp2_with fail
  have kb : Kept [] w (w.alloc (.cells #[.int .i64 k, .pointer (some ⟨LB, 0, none⟩), .func (Fn.func 9) #[] #[.pointer (some ⟨C, 0, none⟩), .pointer (some ⟨GB, 0, none⟩), .pointer (some ⟨GA, 0, none⟩), .pointer (some ⟨GL, 0, none⟩)]] 56)) := (Kept.refl [] w).alloc _
  refine (literal_none P S c L pos _ (kb.cellSome hc (by simp))).mono ?_
  rintro e w1 ⟨E, rfl, hE, hsz, hk⟩
  have hz := kb.size
  go_wp2
  go_ret
  exact ⟨E, rfl, hE, by omega, kb.trans hk⟩

set_option maxRecDepth 100000 in
set_option maxHeartbeats 1000000 in
theorem grid_lit_bad (P S m c L LB C GB GA GL lo v : Nat) (k pos : Int) (w : World) (hm : m + 1 ≤ 1024) (hc : w.cell? ⟨P, 8, none⟩ = some (.slice (some ⟨S, 0, none⟩) (m + 1) c)) (hv : w.cell? ⟨S, m, none⟩ = some (.iface 26 (.float .f64 v))) (hL : w.cell? ⟨L, 0, none⟩ = some (.float .f64 lo)) (hg : geB v lo = false) (hl0 : w.cell? ⟨LB, 0, none⟩ = some (.string ⟨#[120]⟩)) (hl1 : w.cell? ⟨LB, 1, none⟩ = some (.string ⟨#[121]⟩)) (hl2 : w.cell? ⟨LB, 2, none⟩ = some (.func (Fn.func 11) #[] #[.pointer (some ⟨L, 0, none⟩)])) :
    Calls Ybaf.prog 12 #[.pointer (some ⟨P, 0, none⟩), .string ⟨#[79, 80]⟩, .agg #[.int .i64 k, .pointer (some ⟨LB, 0, none⟩), .func (Fn.func 9) #[] #[.pointer (some ⟨C, 0, none⟩), .pointer (some ⟨GB, 0, none⟩), .pointer (some ⟨GA, 0, none⟩), .pointer (some ⟨GL, 0, none⟩)]], .int .i64 pos] w fun e w' => ∃ E, e = .returned (.iface 33 (.pointer (some ⟨E, 0, none⟩))) ∧ ErrAt w' E pos ∧ w.heap.size ≤ E ∧ Kept [] w w' := by
  have hP : P < w.heap.size := World.block_lt_of_cell? _ _ hc
  have hLB : LB < w.heap.size := World.block_lt_of_cell? _ _ hl0
  have hq := run_neq_ptr_some
  go_enter Ybaf.func12, Ybaf.ntmps12
  go_wp2_with fail
  have kb : Kept [] w (w.alloc (.cells #[.int .i64 k, .pointer (some ⟨LB, 0, none⟩), .func (Fn.func 9) #[] #[.pointer (some ⟨C, 0, none⟩), .pointer (some ⟨GB, 0, none⟩), .pointer (some ⟨GA, 0, none⟩), .pointer (some ⟨GL, 0, none⟩)]] 56)) := (Kept.refl [] w).alloc _
  refine (literal_bad P S m c L lo v pos _ hm (kb.cellSome hc (by simp)) (kb.cellSome hv (by simp)) (kb.cellSome hL (by simp)) hg).mono ?_
  rintro e w1 ⟨E, rfl, hE, hsz, hk⟩
  have hz := kb.size
  go_wp2
  go_ret
  exact ⟨E, rfl, hE, by omega, kb.trans hk⟩

set_option maxRecDepth 100000 in
set_option maxHeartbeats 1000000 in
theorem grid_last_err (P S m c L LB C GB GA GL lo v : Nat) (k pos : Int) (w : World) (hm : m + 1 ≤ 1024) (hmc : m + 1 ≤ c) (hc : w.cell? ⟨P, 8, none⟩ = some (.slice (some ⟨S, 0, none⟩) (m + 1) c)) (hf : w.frozen? ⟨P, 8, none⟩ = false) (hv : w.cell? ⟨S, m, none⟩ = some (.iface 26 (.float .f64 v))) (hL : w.cell? ⟨L, 0, none⟩ = some (.float .f64 lo)) (hg : geB v lo = true) (hlt : (m : Int) < k - 1) (hk5 : k ≤ 5) (hl0 : w.cell? ⟨LB, 0, none⟩ = some (.string ⟨#[120]⟩)) (hl1 : w.cell? ⟨LB, 1, none⟩ = some (.string ⟨#[121]⟩)) (hl2 : w.cell? ⟨LB, 2, none⟩ = some (.func (Fn.func 11) #[] #[.pointer (some ⟨L, 0, none⟩)])) :
    Calls Ybaf.prog 12 #[.pointer (some ⟨P, 0, none⟩), .string ⟨#[79, 80]⟩, .agg #[.int .i64 k, .pointer (some ⟨LB, 0, none⟩), .func (Fn.func 9) #[] #[.pointer (some ⟨C, 0, none⟩), .pointer (some ⟨GB, 0, none⟩), .pointer (some ⟨GA, 0, none⟩), .pointer (some ⟨GL, 0, none⟩)]], .int .i64 pos] w fun e w' => ∃ E, e = .returned (.iface 33 (.pointer (some ⟨E, 0, none⟩))) ∧ ErrAt w' E pos ∧ w.heap.size ≤ E ∧ Kept [P] w w' ∧ w'.cell? ⟨P, 8, none⟩ = some (.slice (some ⟨S, 0, none⟩) m c) := by
  have hP : P < w.heap.size := World.block_lt_of_cell? _ _ hc
  have hLB : LB < w.heap.size := World.block_lt_of_cell? _ _ hl0
  have hq := run_neq_ptr_some
  go_enter Ybaf.func12, Ybaf.ntmps12
  go_wp2_with fail
  have kb : Kept [] w (w.alloc (.cells #[.int .i64 k, .pointer (some ⟨LB, 0, none⟩), .func (Fn.func 9) #[] #[.pointer (some ⟨C, 0, none⟩), .pointer (some ⟨GB, 0, none⟩), .pointer (some ⟨GA, 0, none⟩), .pointer (some ⟨GL, 0, none⟩)]] 56)) := (Kept.refl [] w).alloc _
  refine (literal_ok P S m c L lo v pos _ hm (kb.cellSome hc (by simp)) (kb.cellSome hv (by simp)) hmc ((kb.frozen hP (by simp)).trans hf) (kb.cellSome hL (by simp)) hg).mono ?_
  rintro e w1 ⟨rfl, hk1, hc1, hf1⟩
  have hz := kb.size
  have hz1 := hk1.size
  go_wp2_with fail
  refine (pop_err P S m c (k - 1) pos _ hc1 hlt).mono ?_
  rintro e w2 ⟨E, rfl, hE, hsz, hk2⟩
  go_wp2
  go_ret
  exact ⟨E, rfl, hE, by omega, ((kb.weaken (by simp)).trans hk1).trans (hk2.weaken (by simp)), hk2.cellSome hc1 (by simp)⟩

end Go.Proofs.YbulkcobyFmt
