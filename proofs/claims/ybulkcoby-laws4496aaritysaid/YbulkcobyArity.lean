import Derived.Test.YbulkcobyParts
namespace Go.Proofs.Ybulkcoby
open Go.RowKit

theorem grown_drewN {W w' : World} (h : Grown W w') (n : Nat) : Grown W (w'.drewN n) := h

theorem ta35 (w : World) (v : Value) : (Instr.typeAssert (.iface 35 v) 32 35 true).run Yba.prog w = .ok (.tuple #[v, .bool true]) w := by kernel_rfl
theorem ta39 (w : World) (v : Value) : (Instr.typeAssert (.iface 39 v) 32 39 true).run Yba.prog w = .ok (.tuple #[v, .bool true]) w := by kernel_rfl
theorem ta42 (w : World) (v : Value) : (Instr.typeAssert (.iface 42 v) 32 42 true).run Yba.prog w = .ok (.tuple #[v, .bool true]) w := by kernel_rfl

set_option maxRecDepth 100000 in
set_option maxHeartbeats 2000000 in
theorem arityLaw_0 (a0 a1 a2 a3 : Int) (h0 : 0 ≤ a0) (h1 : a0 ≤ 255) (hm : a0 % 8 = 0) (w : World) :
    Calls Yba.prog 4 #[.int .u8 a0, .int .i64 a1, .int .i64 a2, .int .i64 a3] w fun e w' => e = .returned (.bool true) ∧ Grown w w' := by
  have q4 := fun w a b => Lib.run_eql_iface_int (P := Yba.prog) (t := 32) (tx := 29) (k := .i64) w a b Yba.underlying32 (by kernel_rfl) Yba.underlying29
  have t := fun w v => ta42 w v
  go_enter Yba.func4, Yba.ntmps4
  go_wp2_with fail
  refine (rule_0 a0 _ _ _ h0 h1 hm _).mono ?_
  rintro e w' ⟨rfl, rfl⟩
  go_wp2_with fail
  refine (arity_3 _ _ _ rfl rfl (Or.inl rfl) _).mono ?_
  rintro e w' ⟨rfl, rfl⟩
  go_wp2_with fail
  refine (node_three _ _ _ a1 a2 a3 _ (Or.inl rfl) _ (by decide) ?_ ?_ ?_).mono ?_
  · simp [go_sem]
  · simp [go_sem]
  · simp [go_sem]
  rintro e w1 ⟨rfl, nq', hw⟩
  have hg : Grown w w1 := by rw [hw]; exact (by repeat (first | exact Grown.refl _ | apply Grown.drew | apply grown_drewN | apply Grown.alloc))
  have hz : w.heap.size + 1 + 1 + 1 + 1 + 1 + 1 + 1 + 1 + 1 < w1.heap.size := by rw [hw]; simp
  have hc0 : w1.cell? ⟨w.heap.size + 1 + 1 + 1 + 1 + 1 + 1 + 1 + 1 + 1, 0, none⟩ = some (.iface 29 (.int .i64 a1)) := by rw [hw]; simp [go_sem]
  have hc1 : w1.cell? ⟨w.heap.size + 1 + 1 + 1 + 1 + 1 + 1 + 1 + 1 + 1, 1, none⟩ = some (.iface 29 (.int .i64 a2)) := by rw [hw]; simp [go_sem]
  have hc2 : w1.cell? ⟨w.heap.size + 1 + 1 + 1 + 1 + 1 + 1 + 1 + 1 + 1, 2, none⟩ = some (.iface 29 (.int .i64 a3)) := by rw [hw]; simp [go_sem]
  clear hw
  go_wp2
  go_quiet (fail)
  go_wp2
  go_ret
  exact ⟨rfl, grown_drewN (Grown.alloc hg _ _) _⟩

set_option maxRecDepth 100000 in
set_option maxHeartbeats 2000000 in
theorem arityLaw_1 (a0 a1 a2 a3 : Int) (h0 : 0 ≤ a0) (h1 : a0 ≤ 255) (hm : a0 % 8 = 1) (w : World) :
    Calls Yba.prog 4 #[.int .u8 a0, .int .i64 a1, .int .i64 a2, .int .i64 a3] w fun e w' => e = .returned (.bool true) ∧ Grown w w' := by
  have q4 := fun w a b => Lib.run_eql_iface_int (P := Yba.prog) (t := 32) (tx := 29) (k := .i64) w a b Yba.underlying32 (by kernel_rfl) Yba.underlying29
  have t := fun w v => ta35 w v
  go_enter Yba.func4, Yba.ntmps4
  go_wp2_with fail
  refine (rule_1 a0 _ _ _ h0 h1 hm _).mono ?_
  rintro e w' ⟨rfl, rfl⟩
  go_wp2_with fail
  refine (arity_1 _ _ _ ⟨_, rfl⟩ (Or.inl rfl) (Or.inl rfl) _).mono ?_
  rintro e w' ⟨rfl, rfl⟩
  go_wp2_with fail
  refine (node_one _ _ _ _ a1 _ _ (Or.inl rfl) (Or.inl rfl) _ (by decide) ?_).mono ?_
  · simp [go_sem]
  rintro e w1 ⟨rfl, nq', hw⟩
  have hg : Grown w w1 := by rw [hw]; exact (by repeat (first | exact Grown.refl _ | apply Grown.drew | apply grown_drewN | apply Grown.alloc))
  have hz : w.heap.size + 1 + 1 + 1 + 1 + 1 + 1 + 1 + 1 + 1 < w1.heap.size := by rw [hw]; simp
  have hc0 : w1.cell? ⟨w.heap.size + 1 + 1 + 1 + 1 + 1 + 1 + 1 + 1 + 1, 0, none⟩ = some (.iface 29 (.int .i64 a1)) := by rw [hw]; simp [go_sem]
  clear hw
  go_wp2
  go_quiet (fail)
  go_wp2
  go_ret
  exact ⟨rfl, grown_drewN (Grown.alloc hg _ _) _⟩

set_option maxRecDepth 100000 in
set_option maxHeartbeats 2000000 in
theorem arityLaw_2 (a0 a1 a2 a3 : Int) (h0 : 0 ≤ a0) (h1 : a0 ≤ 255) (hm : a0 % 8 = 2) (w : World) :
    Calls Yba.prog 4 #[.int .u8 a0, .int .i64 a1, .int .i64 a2, .int .i64 a3] w fun e w' => e = .returned (.bool true) ∧ Grown w w' := by
  have q4 := fun w a b => Lib.run_eql_iface_int (P := Yba.prog) (t := 32) (tx := 29) (k := .i64) w a b Yba.underlying32 (by kernel_rfl) Yba.underlying29
  have t := fun w v => ta39 w v
  go_enter Yba.func4, Yba.ntmps4
  go_wp2_with fail
  refine (rule_2 a0 _ _ _ h0 h1 hm _).mono ?_
  rintro e w' ⟨rfl, rfl⟩
  go_wp2_with fail
  refine (arity_2 _ _ _ rfl ⟨_, rfl⟩ (Or.inl rfl) _).mono ?_
  rintro e w' ⟨rfl, rfl⟩
  go_wp2_with fail
  refine (node_two _ _ _ _ a1 a2 _ (Or.inl rfl) _ (by decide) ?_ ?_).mono ?_
  · simp [go_sem]
  · simp [go_sem]
  rintro e w1 ⟨rfl, nq', hw⟩
  have hg : Grown w w1 := by rw [hw]; exact (by repeat (first | exact Grown.refl _ | apply Grown.drew | apply grown_drewN | apply Grown.alloc))
  have hz : w.heap.size + 1 + 1 + 1 + 1 + 1 + 1 + 1 + 1 + 1 < w1.heap.size := by rw [hw]; simp
  have hc0 : w1.cell? ⟨w.heap.size + 1 + 1 + 1 + 1 + 1 + 1 + 1 + 1 + 1, 0, none⟩ = some (.iface 29 (.int .i64 a1)) := by rw [hw]; simp [go_sem]
  have hc1 : w1.cell? ⟨w.heap.size + 1 + 1 + 1 + 1 + 1 + 1 + 1 + 1 + 1, 1, none⟩ = some (.iface 29 (.int .i64 a2)) := by rw [hw]; simp [go_sem]
  clear hw
  go_wp2
  go_quiet (fail)
  go_wp2
  go_ret
  exact ⟨rfl, grown_drewN (Grown.alloc hg _ _) _⟩

set_option maxRecDepth 100000 in
set_option maxHeartbeats 2000000 in
theorem arityLaw_3 (a0 a1 a2 a3 : Int) (h0 : 0 ≤ a0) (h1 : a0 ≤ 255) (hm : a0 % 8 = 3) (w : World) :
    Calls Yba.prog 4 #[.int .u8 a0, .int .i64 a1, .int .i64 a2, .int .i64 a3] w fun e w' => e = .returned (.bool true) ∧ Grown w w' := by
  have q4 := fun w a b => Lib.run_eql_iface_int (P := Yba.prog) (t := 32) (tx := 29) (k := .i64) w a b Yba.underlying32 (by kernel_rfl) Yba.underlying29
  have t := fun w v => ta35 w v
  go_enter Yba.func4, Yba.ntmps4
  go_wp2_with fail
  refine (rule_3 a0 _ _ _ h0 h1 hm _).mono ?_
  rintro e w' ⟨rfl, rfl⟩
  go_wp2_with fail
  refine (arity_1 _ _ _ ⟨_, rfl⟩ (Or.inr ⟨_, rfl⟩) (Or.inl rfl) _).mono ?_
  rintro e w' ⟨rfl, rfl⟩
  go_wp2_with fail
  refine (node_one _ _ _ _ a1 _ _ (Or.inr ⟨_, rfl⟩) (Or.inl rfl) _ (by decide) ?_).mono ?_
  · simp [go_sem]
  rintro e w1 ⟨rfl, nq', hw⟩
  have hg : Grown w w1 := by rw [hw]; exact (by repeat (first | exact Grown.refl _ | apply Grown.drew | apply grown_drewN | apply Grown.alloc))
  have hz : w.heap.size + 1 + 1 + 1 + 1 + 1 + 1 + 1 + 1 + 1 < w1.heap.size := by rw [hw]; simp
  have hc0 : w1.cell? ⟨w.heap.size + 1 + 1 + 1 + 1 + 1 + 1 + 1 + 1 + 1, 0, none⟩ = some (.iface 29 (.int .i64 a1)) := by rw [hw]; simp [go_sem]
  clear hw
  go_wp2
  go_quiet (fail)
  go_wp2
  go_ret
  exact ⟨rfl, grown_drewN (Grown.alloc hg _ _) _⟩

set_option maxRecDepth 100000 in
set_option maxHeartbeats 2000000 in
theorem arityLaw_4 (a0 a1 a2 a3 : Int) (h0 : 0 ≤ a0) (h1 : a0 ≤ 255) (hm : a0 % 8 = 4) (w : World) :
    Calls Yba.prog 4 #[.int .u8 a0, .int .i64 a1, .int .i64 a2, .int .i64 a3] w fun e w' => e = .returned (.bool true) ∧ Grown w w' := by
  have q4 := fun w a b => Lib.run_eql_iface_int (P := Yba.prog) (t := 32) (tx := 29) (k := .i64) w a b Yba.underlying32 (by kernel_rfl) Yba.underlying29
  have t := fun w v => ta42 w v
  go_enter Yba.func4, Yba.ntmps4
  go_wp2_with fail
  refine (rule_4 a0 _ _ _ h0 h1 hm _).mono ?_
  rintro e w' ⟨rfl, rfl⟩
  go_wp2_with fail
  refine (arity_3 _ _ _ rfl rfl (Or.inr ⟨_, rfl⟩) _).mono ?_
  rintro e w' ⟨rfl, rfl⟩
  go_wp2_with fail
  refine (node_three _ _ _ a1 a2 a3 _ (Or.inr ⟨_, rfl⟩) _ (by decide) ?_ ?_ ?_).mono ?_
  · simp [go_sem]
  · simp [go_sem]
  · simp [go_sem]
  rintro e w1 ⟨rfl, nq', hw⟩
  have hg : Grown w w1 := by rw [hw]; exact (by repeat (first | exact Grown.refl _ | apply Grown.drew | apply grown_drewN | apply Grown.alloc))
  have hz : w.heap.size + 1 + 1 + 1 + 1 + 1 + 1 + 1 + 1 + 1 < w1.heap.size := by rw [hw]; simp
  have hc0 : w1.cell? ⟨w.heap.size + 1 + 1 + 1 + 1 + 1 + 1 + 1 + 1 + 1, 0, none⟩ = some (.iface 29 (.int .i64 a1)) := by rw [hw]; simp [go_sem]
  have hc1 : w1.cell? ⟨w.heap.size + 1 + 1 + 1 + 1 + 1 + 1 + 1 + 1 + 1, 1, none⟩ = some (.iface 29 (.int .i64 a2)) := by rw [hw]; simp [go_sem]
  have hc2 : w1.cell? ⟨w.heap.size + 1 + 1 + 1 + 1 + 1 + 1 + 1 + 1 + 1, 2, none⟩ = some (.iface 29 (.int .i64 a3)) := by rw [hw]; simp [go_sem]
  clear hw
  go_wp2
  go_quiet (fail)
  go_wp2
  go_ret
  exact ⟨rfl, grown_drewN (Grown.alloc hg _ _) _⟩

set_option maxRecDepth 100000 in
set_option maxHeartbeats 2000000 in
theorem arityLaw_5 (a0 a1 a2 a3 : Int) (h0 : 0 ≤ a0) (h1 : a0 ≤ 255) (hm : a0 % 8 = 5) (w : World) :
    Calls Yba.prog 4 #[.int .u8 a0, .int .i64 a1, .int .i64 a2, .int .i64 a3] w fun e w' => e = .returned (.bool true) ∧ Grown w w' := by
  have q4 := fun w a b => Lib.run_eql_iface_int (P := Yba.prog) (t := 32) (tx := 29) (k := .i64) w a b Yba.underlying32 (by kernel_rfl) Yba.underlying29
  have t := fun w v => ta35 w v
  go_enter Yba.func4, Yba.ntmps4
  go_wp2_with fail
  refine (rule_5 a0 _ _ _ h0 h1 hm _).mono ?_
  rintro e w' ⟨rfl, rfl⟩
  go_wp2_with fail
  refine (arity_1 _ _ _ ⟨_, rfl⟩ (Or.inl rfl) (Or.inr ⟨_, rfl⟩) _).mono ?_
  rintro e w' ⟨rfl, rfl⟩
  go_wp2_with fail
  refine (node_one _ _ _ _ a1 _ _ (Or.inl rfl) (Or.inr ⟨_, rfl⟩) _ (by decide) ?_).mono ?_
  · simp [go_sem]
  rintro e w1 ⟨rfl, nq', hw⟩
  have hg : Grown w w1 := by rw [hw]; exact (by repeat (first | exact Grown.refl _ | apply Grown.drew | apply grown_drewN | apply Grown.alloc))
  have hz : w.heap.size + 1 + 1 + 1 + 1 + 1 + 1 + 1 + 1 + 1 < w1.heap.size := by rw [hw]; simp
  have hc0 : w1.cell? ⟨w.heap.size + 1 + 1 + 1 + 1 + 1 + 1 + 1 + 1 + 1, 0, none⟩ = some (.iface 29 (.int .i64 a1)) := by rw [hw]; simp [go_sem]
  clear hw
  go_wp2
  go_quiet (fail)
  go_wp2
  go_ret
  exact ⟨rfl, grown_drewN (Grown.alloc hg _ _) _⟩

set_option maxRecDepth 100000 in
set_option maxHeartbeats 2000000 in
theorem arityLaw_6 (a0 a1 a2 a3 : Int) (h0 : 0 ≤ a0) (h1 : a0 ≤ 255) (hm : a0 % 8 = 6) (w : World) :
    Calls Yba.prog 4 #[.int .u8 a0, .int .i64 a1, .int .i64 a2, .int .i64 a3] w fun e w' => e = .returned (.bool true) ∧ Grown w w' := by
  have q4 := fun w a b => Lib.run_eql_iface_int (P := Yba.prog) (t := 32) (tx := 29) (k := .i64) w a b Yba.underlying32 (by kernel_rfl) Yba.underlying29
  have t := fun w v => ta39 w v
  go_enter Yba.func4, Yba.ntmps4
  go_wp2_with fail
  refine (rule_6 a0 _ _ _ h0 h1 hm _).mono ?_
  rintro e w' ⟨rfl, rfl⟩
  go_wp2_with fail
  refine (arity_2 _ _ _ rfl ⟨_, rfl⟩ (Or.inr ⟨_, rfl⟩) _).mono ?_
  rintro e w' ⟨rfl, rfl⟩
  go_wp2_with fail
  refine (node_two _ _ _ _ a1 a2 _ (Or.inr ⟨_, rfl⟩) _ (by decide) ?_ ?_).mono ?_
  · simp [go_sem]
  · simp [go_sem]
  rintro e w1 ⟨rfl, nq', hw⟩
  have hg : Grown w w1 := by rw [hw]; exact (by repeat (first | exact Grown.refl _ | apply Grown.drew | apply grown_drewN | apply Grown.alloc))
  have hz : w.heap.size + 1 + 1 + 1 + 1 + 1 + 1 + 1 + 1 + 1 < w1.heap.size := by rw [hw]; simp
  have hc0 : w1.cell? ⟨w.heap.size + 1 + 1 + 1 + 1 + 1 + 1 + 1 + 1 + 1, 0, none⟩ = some (.iface 29 (.int .i64 a1)) := by rw [hw]; simp [go_sem]
  have hc1 : w1.cell? ⟨w.heap.size + 1 + 1 + 1 + 1 + 1 + 1 + 1 + 1 + 1, 1, none⟩ = some (.iface 29 (.int .i64 a2)) := by rw [hw]; simp [go_sem]
  clear hw
  go_wp2
  go_quiet (fail)
  go_wp2
  go_ret
  exact ⟨rfl, grown_drewN (Grown.alloc hg _ _) _⟩

set_option maxRecDepth 100000 in
set_option maxHeartbeats 2000000 in
theorem arityLaw_7 (a0 a1 a2 a3 : Int) (h0 : 0 ≤ a0) (h1 : a0 ≤ 255) (hm : a0 % 8 = 7) (w : World) :
    Calls Yba.prog 4 #[.int .u8 a0, .int .i64 a1, .int .i64 a2, .int .i64 a3] w fun e w' => e = .returned (.bool true) ∧ Grown w w' := by
  have q4 := fun w a b => Lib.run_eql_iface_int (P := Yba.prog) (t := 32) (tx := 29) (k := .i64) w a b Yba.underlying32 (by kernel_rfl) Yba.underlying29
  have t := fun w v => ta35 w v
  go_enter Yba.func4, Yba.ntmps4
  go_wp2_with fail
  refine (rule_7 a0 _ _ _ h0 h1 hm _).mono ?_
  rintro e w' ⟨rfl, rfl⟩
  go_wp2_with fail
  refine (arity_1 _ _ _ ⟨_, rfl⟩ (Or.inr ⟨_, rfl⟩) (Or.inr ⟨_, rfl⟩) _).mono ?_
  rintro e w' ⟨rfl, rfl⟩
  go_wp2_with fail
  refine (node_one _ _ _ _ a1 _ _ (Or.inr ⟨_, rfl⟩) (Or.inr ⟨_, rfl⟩) _ (by decide) ?_).mono ?_
  · simp [go_sem]
  rintro e w1 ⟨rfl, nq', hw⟩
  have hg : Grown w w1 := by rw [hw]; exact (by repeat (first | exact Grown.refl _ | apply Grown.drew | apply grown_drewN | apply Grown.alloc))
  have hz : w.heap.size + 1 + 1 + 1 + 1 + 1 + 1 + 1 + 1 + 1 < w1.heap.size := by rw [hw]; simp
  have hc0 : w1.cell? ⟨w.heap.size + 1 + 1 + 1 + 1 + 1 + 1 + 1 + 1 + 1, 0, none⟩ = some (.iface 29 (.int .i64 a1)) := by rw [hw]; simp [go_sem]
  clear hw
  go_wp2
  go_quiet (fail)
  go_wp2
  go_ret
  exact ⟨rfl, grown_drewN (Grown.alloc hg _ _) _⟩

end Go.Proofs.Ybulkcoby
