import Derived.Test.YbulkcobyHelp
namespace Go.Proofs.Ybulkcoby
open Go.RowKit

set_option maxRecDepth 100000 in
set_option maxHeartbeats 2000000 in
theorem build_4 (a0 a1 a2 a3 : Int) (h0 : 0 ≤ a0) (h1 : a0 ≤ 255) (hm : a0 % 8 = 4) (w : World) :
    Calls Yba.prog 3 #[.int .u8 a0, .int .i64 a1, .int .i64 a2, .int .i64 a3] w fun e w' => e = .returned (.bool true) ∧ Grown w w' := by
  have q3 := fun w fn first cap => run_eql_func_nil (P := Yba.prog) w Yba.underlying24 fn first cap
  have q3' := fun w => run_eql_nilfunc_nil (P := Yba.prog) w Yba.underlying24
  have q4 := fun w a b => Lib.run_neq_iface_int (P := Yba.prog) (t := 32) (tx := 29) (k := .i64) w a b Yba.underlying32 (by kernel_rfl) Yba.underlying29
  have t := fun w v => ta42 w v
  go_enter Yba.func3, Yba.ntmps3
  go_wp2_with fail
  refine (rule_4 a0 _ _ _ h0 h1 hm _).mono ?_
  rintro e w' ⟨rfl, rfl⟩
  go_wp2_with fail
  refine (node_three _ _ _ a1 a2 a3 _ (Or.inr ⟨_, rfl⟩) _ (by decide) ?_ ?_ ?_).mono ?_
  · simp [go_sem]
  · simp [go_sem]
  · simp [go_sem]
  rintro e w' ⟨rfl, nq, rfl⟩
  go_wp2_with fail
  refine (clo_3 _ (w.heap.size + 1 + 1) _ ?_ ?_ ?_).mono ?_
  · simp [go_sem]
  · simp [go_sem]
  · simp [go_sem]
  rintro e w1 ⟨rfl, hw⟩
  obtain ⟨hc, ho, hg⟩ := clo_after (by simp [go_sem]) hw
  have hg' := hg w (by repeat (first | exact Grown.refl _ | apply Grown.drew | apply grown_drewN | apply Grown.alloc)) (by omega)
  have ho1 := ho (w.heap.size) (by omega)
  have ho2 := ho (w.heap.size + 1) (by omega)
  simp [go_sem] at ho1 ho2
  clear hg ho hw
  go_wp2
  go_ret
  exact ⟨rfl, hg'⟩

set_option maxRecDepth 100000 in
set_option maxHeartbeats 2000000 in
theorem build_5 (a0 a1 a2 a3 : Int) (h0 : 0 ≤ a0) (h1 : a0 ≤ 255) (hm : a0 % 8 = 5) (w : World) :
    Calls Yba.prog 3 #[.int .u8 a0, .int .i64 a1, .int .i64 a2, .int .i64 a3] w fun e w' => e = .returned (.bool true) ∧ Grown w w' := by
  have q3 := fun w fn first cap => run_eql_func_nil (P := Yba.prog) w Yba.underlying22 fn first cap
  have q3' := fun w => run_eql_nilfunc_nil (P := Yba.prog) w Yba.underlying22
  have q4 := fun w a b => Lib.run_neq_iface_int (P := Yba.prog) (t := 32) (tx := 29) (k := .i64) w a b Yba.underlying32 (by kernel_rfl) Yba.underlying29
  have t := fun w v => ta35 w v
  go_enter Yba.func3, Yba.ntmps3
  go_wp2_with fail
  refine (rule_5 a0 _ _ _ h0 h1 hm _).mono ?_
  rintro e w' ⟨rfl, rfl⟩
  go_wp2_with fail
  refine (node_one _ _ _ _ a1 _ _ (Or.inl rfl) (Or.inr ⟨_, rfl⟩) _ (by decide) ?_).mono ?_
  · simp [go_sem]
  rintro e w' ⟨rfl, nq, rfl⟩
  go_wp2_with fail
  refine (clo_1 _ (w.heap.size) _ ?_ ?_ ?_).mono ?_
  · simp [go_sem]
  · simp [go_sem]
  · simp [go_sem]
  rintro e w1 ⟨rfl, hw⟩
  obtain ⟨hc, ho, hg⟩ := clo_after (by simp [go_sem]) hw
  have hg' := hg w (by repeat (first | exact Grown.refl _ | apply Grown.drew | apply grown_drewN | apply Grown.alloc)) (by omega)
  have ho1 := ho (w.heap.size + 1) (by omega)
  have ho2 := ho (w.heap.size + 1 + 1) (by omega)
  simp [go_sem] at ho1 ho2
  clear hg ho hw
  go_wp2
  go_ret
  exact ⟨rfl, hg'⟩

set_option maxRecDepth 100000 in
set_option maxHeartbeats 2000000 in
theorem build_6 (a0 a1 a2 a3 : Int) (h0 : 0 ≤ a0) (h1 : a0 ≤ 255) (hm : a0 % 8 = 6) (w : World) :
    Calls Yba.prog 3 #[.int .u8 a0, .int .i64 a1, .int .i64 a2, .int .i64 a3] w fun e w' => e = .returned (.bool true) ∧ Grown w w' := by
  have q3 := fun w fn first cap => run_eql_func_nil (P := Yba.prog) w Yba.underlying23 fn first cap
  have q3' := fun w => run_eql_nilfunc_nil (P := Yba.prog) w Yba.underlying23
  have q4 := fun w a b => Lib.run_neq_iface_int (P := Yba.prog) (t := 32) (tx := 29) (k := .i64) w a b Yba.underlying32 (by kernel_rfl) Yba.underlying29
  have t := fun w v => ta39 w v
  go_enter Yba.func3, Yba.ntmps3
  go_wp2_with fail
  refine (rule_6 a0 _ _ _ h0 h1 hm _).mono ?_
  rintro e w' ⟨rfl, rfl⟩
  go_wp2_with fail
  refine (node_two _ _ _ _ a1 a2 _ (Or.inr ⟨_, rfl⟩) _ (by decide) ?_ ?_).mono ?_
  · simp [go_sem]
  · simp [go_sem]
  rintro e w' ⟨rfl, nq, rfl⟩
  go_wp2_with fail
  refine (clo_2 _ (w.heap.size + 1) _ ?_ ?_ ?_).mono ?_
  · simp [go_sem]
  · simp [go_sem]
  · simp [go_sem]
  rintro e w1 ⟨rfl, hw⟩
  obtain ⟨hc, ho, hg⟩ := clo_after (by simp [go_sem]) hw
  have hg' := hg w (by repeat (first | exact Grown.refl _ | apply Grown.drew | apply grown_drewN | apply Grown.alloc)) (by omega)
  have ho1 := ho (w.heap.size) (by omega)
  have ho2 := ho (w.heap.size + 1 + 1) (by omega)
  simp [go_sem] at ho1 ho2
  clear hg ho hw
  go_wp2
  go_ret
  exact ⟨rfl, hg'⟩

set_option maxRecDepth 100000 in
set_option maxHeartbeats 2000000 in
theorem build_7 (a0 a1 a2 a3 : Int) (h0 : 0 ≤ a0) (h1 : a0 ≤ 255) (hm : a0 % 8 = 7) (w : World) :
    Calls Yba.prog 3 #[.int .u8 a0, .int .i64 a1, .int .i64 a2, .int .i64 a3] w fun e w' => e = .returned (.bool true) ∧ Grown w w' := by
  have q3 := fun w fn first cap => run_eql_func_nil (P := Yba.prog) w Yba.underlying22 fn first cap
  have q3' := fun w => run_eql_nilfunc_nil (P := Yba.prog) w Yba.underlying22
  have q4 := fun w a b => Lib.run_neq_iface_int (P := Yba.prog) (t := 32) (tx := 29) (k := .i64) w a b Yba.underlying32 (by kernel_rfl) Yba.underlying29
  have t := fun w v => ta35 w v
  go_enter Yba.func3, Yba.ntmps3
  go_wp2_with fail
  refine (rule_7 a0 _ _ _ h0 h1 hm _).mono ?_
  rintro e w' ⟨rfl, rfl⟩
  go_wp2_with fail
  refine (node_one _ _ _ _ a1 _ _ (Or.inr ⟨_, rfl⟩) (Or.inr ⟨_, rfl⟩) _ (by decide) ?_).mono ?_
  · simp [go_sem]
  rintro e w' ⟨rfl, nq, rfl⟩
  go_wp2_with fail
  refine (clo_1 _ (w.heap.size) _ ?_ ?_ ?_).mono ?_
  · simp [go_sem]
  · simp [go_sem]
  · simp [go_sem]
  rintro e w1 ⟨rfl, hw⟩
  obtain ⟨hc, ho, hg⟩ := clo_after (by simp [go_sem]) hw
  have hg' := hg w (by repeat (first | exact Grown.refl _ | apply Grown.drew | apply grown_drewN | apply Grown.alloc)) (by omega)
  have ho1 := ho (w.heap.size + 1) (by omega)
  have ho2 := ho (w.heap.size + 1 + 1) (by omega)
  simp [go_sem] at ho1 ho2
  clear hg ho hw
  go_wp2
  go_ret
  exact ⟨rfl, hg'⟩

end Go.Proofs.Ybulkcoby
