import Derived.Test.YbulkcobyRows
import Derived.Test.YbulkcobyLaws
import Derived.WalkKit
import Derived.WalkSpells
import Derived.WalkLawsBesides
import Derived.Laws.EntriesVeiled
import Derived.Deep.QuietTactic
import Derived.BigQuiet
namespace Go.Proofs.Ybulkcoby
open Go.RowKit

set_option maxHeartbeats 1000000 in
theorem rule_0 (a0 : Int) (b1 b2 b3 : Nat) (_h0 : 0 ≤ a0) (_h1 : a0 ≤ 255) (_hm : a0 % 8 = 0) (w : World) :
    Calls Yba.prog 5 #[.int .u8 a0, .pointer (some ⟨b1, 0, none⟩), .pointer (some ⟨b2, 0, none⟩), .pointer (some ⟨b3, 0, none⟩)] w fun e w' => e = .returned (.agg #[.nilFunc, .nilFunc, .nilFunc]) ∧
      w' = ((((w.alloc (.cells #[.pointer (some ⟨b1, 0, none⟩)] 28)).alloc (.cells #[.pointer (some ⟨b2, 0, none⟩)] 28)).alloc (.cells #[.pointer (some ⟨b3, 0, none⟩)] 28)).alloc (.cells #[.nilFunc, .nilFunc, .nilFunc] 26)).alloc (.cells #[.nilFunc, .nilFunc, .nilFunc] 26) := by
  have hmf : ∀ (fn : Fn) (first cap : Array Value) (w : World), (Instr.makeFunc fn first cap).run Yba.prog w = .ok (.func fn first cap) w := fun _ _ _ _ => rfl
  go_enter Yba.func5, Yba.ntmps5
  go_wp2
  exact bodyPost_ret (v := .agg #[.nilFunc, .nilFunc, .nilFunc]) (by simp [results, Yba.results5, go_sem]) rfl ⟨rfl, rfl⟩

set_option maxHeartbeats 1000000 in
theorem rule_1 (a0 : Int) (b1 b2 b3 : Nat) (_h0 : 0 ≤ a0) (_h1 : a0 ≤ 255) (_hm : a0 % 8 = 1) (w : World) :
    Calls Yba.prog 5 #[.int .u8 a0, .pointer (some ⟨b1, 0, none⟩), .pointer (some ⟨b2, 0, none⟩), .pointer (some ⟨b3, 0, none⟩)] w fun e w' => e = .returned (.agg #[.func (Fn.func 8) #[] #[.pointer (some ⟨w.heap.size, 0, none⟩)], .nilFunc, .nilFunc]) ∧
      w' = ((((w.alloc (.cells #[.pointer (some ⟨b1, 0, none⟩)] 28)).alloc (.cells #[.pointer (some ⟨b2, 0, none⟩)] 28)).alloc (.cells #[.pointer (some ⟨b3, 0, none⟩)] 28)).alloc (.cells #[.func (Fn.func 8) #[] #[.pointer (some ⟨w.heap.size, 0, none⟩)], .nilFunc, .nilFunc] 26)).alloc (.cells #[.func (Fn.func 8) #[] #[.pointer (some ⟨w.heap.size, 0, none⟩)], .nilFunc, .nilFunc] 26) := by
  have hmf : ∀ (fn : Fn) (first cap : Array Value) (w : World), (Instr.makeFunc fn first cap).run Yba.prog w = .ok (.func fn first cap) w := fun _ _ _ _ => rfl
  go_enter Yba.func5, Yba.ntmps5
  go_wp2
  exact bodyPost_ret (v := .agg #[.func (Fn.func 8) #[] #[.pointer (some ⟨w.heap.size, 0, none⟩)], .nilFunc, .nilFunc]) (by simp [results, Yba.results5, go_sem]) rfl ⟨rfl, rfl⟩

set_option maxHeartbeats 1000000 in
theorem rule_2 (a0 : Int) (b1 b2 b3 : Nat) (_h0 : 0 ≤ a0) (_h1 : a0 ≤ 255) (_hm : a0 % 8 = 2) (w : World) :
    Calls Yba.prog 5 #[.int .u8 a0, .pointer (some ⟨b1, 0, none⟩), .pointer (some ⟨b2, 0, none⟩), .pointer (some ⟨b3, 0, none⟩)] w fun e w' => e = .returned (.agg #[.nilFunc, .func (Fn.func 9) #[] #[.pointer (some ⟨w.heap.size + 1, 0, none⟩)], .nilFunc]) ∧
      w' = ((((w.alloc (.cells #[.pointer (some ⟨b1, 0, none⟩)] 28)).alloc (.cells #[.pointer (some ⟨b2, 0, none⟩)] 28)).alloc (.cells #[.pointer (some ⟨b3, 0, none⟩)] 28)).alloc (.cells #[.nilFunc, .func (Fn.func 9) #[] #[.pointer (some ⟨w.heap.size + 1, 0, none⟩)], .nilFunc] 26)).alloc (.cells #[.nilFunc, .func (Fn.func 9) #[] #[.pointer (some ⟨w.heap.size + 1, 0, none⟩)], .nilFunc] 26) := by
  have hmf : ∀ (fn : Fn) (first cap : Array Value) (w : World), (Instr.makeFunc fn first cap).run Yba.prog w = .ok (.func fn first cap) w := fun _ _ _ _ => rfl
  go_enter Yba.func5, Yba.ntmps5
  go_wp2
  exact bodyPost_ret (v := .agg #[.nilFunc, .func (Fn.func 9) #[] #[.pointer (some ⟨w.heap.size + 1, 0, none⟩)], .nilFunc]) (by simp [results, Yba.results5, go_sem]) rfl ⟨rfl, rfl⟩

set_option maxHeartbeats 1000000 in
theorem rule_3 (a0 : Int) (b1 b2 b3 : Nat) (_h0 : 0 ≤ a0) (_h1 : a0 ≤ 255) (_hm : a0 % 8 = 3) (w : World) :
    Calls Yba.prog 5 #[.int .u8 a0, .pointer (some ⟨b1, 0, none⟩), .pointer (some ⟨b2, 0, none⟩), .pointer (some ⟨b3, 0, none⟩)] w fun e w' => e = .returned (.agg #[.func (Fn.func 8) #[] #[.pointer (some ⟨w.heap.size, 0, none⟩)], .func (Fn.func 9) #[] #[.pointer (some ⟨w.heap.size + 1, 0, none⟩)], .nilFunc]) ∧
      w' = ((((w.alloc (.cells #[.pointer (some ⟨b1, 0, none⟩)] 28)).alloc (.cells #[.pointer (some ⟨b2, 0, none⟩)] 28)).alloc (.cells #[.pointer (some ⟨b3, 0, none⟩)] 28)).alloc (.cells #[.func (Fn.func 8) #[] #[.pointer (some ⟨w.heap.size, 0, none⟩)], .func (Fn.func 9) #[] #[.pointer (some ⟨w.heap.size + 1, 0, none⟩)], .nilFunc] 26)).alloc (.cells #[.func (Fn.func 8) #[] #[.pointer (some ⟨w.heap.size, 0, none⟩)], .func (Fn.func 9) #[] #[.pointer (some ⟨w.heap.size + 1, 0, none⟩)], .nilFunc] 26) := by
  have hmf : ∀ (fn : Fn) (first cap : Array Value) (w : World), (Instr.makeFunc fn first cap).run Yba.prog w = .ok (.func fn first cap) w := fun _ _ _ _ => rfl
  go_enter Yba.func5, Yba.ntmps5
  go_wp2
  exact bodyPost_ret (v := .agg #[.func (Fn.func 8) #[] #[.pointer (some ⟨w.heap.size, 0, none⟩)], .func (Fn.func 9) #[] #[.pointer (some ⟨w.heap.size + 1, 0, none⟩)], .nilFunc]) (by simp [results, Yba.results5, go_sem]) rfl ⟨rfl, rfl⟩

set_option maxHeartbeats 1000000 in
theorem rule_4 (a0 : Int) (b1 b2 b3 : Nat) (_h0 : 0 ≤ a0) (_h1 : a0 ≤ 255) (_hm : a0 % 8 = 4) (w : World) :
    Calls Yba.prog 5 #[.int .u8 a0, .pointer (some ⟨b1, 0, none⟩), .pointer (some ⟨b2, 0, none⟩), .pointer (some ⟨b3, 0, none⟩)] w fun e w' => e = .returned (.agg #[.nilFunc, .nilFunc, .func (Fn.func 10) #[] #[.pointer (some ⟨w.heap.size + 1 + 1, 0, none⟩)]]) ∧
      w' = ((((w.alloc (.cells #[.pointer (some ⟨b1, 0, none⟩)] 28)).alloc (.cells #[.pointer (some ⟨b2, 0, none⟩)] 28)).alloc (.cells #[.pointer (some ⟨b3, 0, none⟩)] 28)).alloc (.cells #[.nilFunc, .nilFunc, .func (Fn.func 10) #[] #[.pointer (some ⟨w.heap.size + 1 + 1, 0, none⟩)]] 26)).alloc (.cells #[.nilFunc, .nilFunc, .func (Fn.func 10) #[] #[.pointer (some ⟨w.heap.size + 1 + 1, 0, none⟩)]] 26) := by
  have hmf : ∀ (fn : Fn) (first cap : Array Value) (w : World), (Instr.makeFunc fn first cap).run Yba.prog w = .ok (.func fn first cap) w := fun _ _ _ _ => rfl
  go_enter Yba.func5, Yba.ntmps5
  go_wp2
  exact bodyPost_ret (v := .agg #[.nilFunc, .nilFunc, .func (Fn.func 10) #[] #[.pointer (some ⟨w.heap.size + 1 + 1, 0, none⟩)]]) (by simp [results, Yba.results5, go_sem]) rfl ⟨rfl, rfl⟩

set_option maxHeartbeats 1000000 in
theorem rule_5 (a0 : Int) (b1 b2 b3 : Nat) (_h0 : 0 ≤ a0) (_h1 : a0 ≤ 255) (_hm : a0 % 8 = 5) (w : World) :
    Calls Yba.prog 5 #[.int .u8 a0, .pointer (some ⟨b1, 0, none⟩), .pointer (some ⟨b2, 0, none⟩), .pointer (some ⟨b3, 0, none⟩)] w fun e w' => e = .returned (.agg #[.func (Fn.func 8) #[] #[.pointer (some ⟨w.heap.size, 0, none⟩)], .nilFunc, .func (Fn.func 10) #[] #[.pointer (some ⟨w.heap.size + 1 + 1, 0, none⟩)]]) ∧
      w' = ((((w.alloc (.cells #[.pointer (some ⟨b1, 0, none⟩)] 28)).alloc (.cells #[.pointer (some ⟨b2, 0, none⟩)] 28)).alloc (.cells #[.pointer (some ⟨b3, 0, none⟩)] 28)).alloc (.cells #[.func (Fn.func 8) #[] #[.pointer (some ⟨w.heap.size, 0, none⟩)], .nilFunc, .func (Fn.func 10) #[] #[.pointer (some ⟨w.heap.size + 1 + 1, 0, none⟩)]] 26)).alloc (.cells #[.func (Fn.func 8) #[] #[.pointer (some ⟨w.heap.size, 0, none⟩)], .nilFunc, .func (Fn.func 10) #[] #[.pointer (some ⟨w.heap.size + 1 + 1, 0, none⟩)]] 26) := by
  have hmf : ∀ (fn : Fn) (first cap : Array Value) (w : World), (Instr.makeFunc fn first cap).run Yba.prog w = .ok (.func fn first cap) w := fun _ _ _ _ => rfl
  go_enter Yba.func5, Yba.ntmps5
  go_wp2
  exact bodyPost_ret (v := .agg #[.func (Fn.func 8) #[] #[.pointer (some ⟨w.heap.size, 0, none⟩)], .nilFunc, .func (Fn.func 10) #[] #[.pointer (some ⟨w.heap.size + 1 + 1, 0, none⟩)]]) (by simp [results, Yba.results5, go_sem]) rfl ⟨rfl, rfl⟩

set_option maxHeartbeats 1000000 in
theorem rule_6 (a0 : Int) (b1 b2 b3 : Nat) (_h0 : 0 ≤ a0) (_h1 : a0 ≤ 255) (_hm : a0 % 8 = 6) (w : World) :
    Calls Yba.prog 5 #[.int .u8 a0, .pointer (some ⟨b1, 0, none⟩), .pointer (some ⟨b2, 0, none⟩), .pointer (some ⟨b3, 0, none⟩)] w fun e w' => e = .returned (.agg #[.nilFunc, .func (Fn.func 9) #[] #[.pointer (some ⟨w.heap.size + 1, 0, none⟩)], .func (Fn.func 10) #[] #[.pointer (some ⟨w.heap.size + 1 + 1, 0, none⟩)]]) ∧
      w' = ((((w.alloc (.cells #[.pointer (some ⟨b1, 0, none⟩)] 28)).alloc (.cells #[.pointer (some ⟨b2, 0, none⟩)] 28)).alloc (.cells #[.pointer (some ⟨b3, 0, none⟩)] 28)).alloc (.cells #[.nilFunc, .func (Fn.func 9) #[] #[.pointer (some ⟨w.heap.size + 1, 0, none⟩)], .func (Fn.func 10) #[] #[.pointer (some ⟨w.heap.size + 1 + 1, 0, none⟩)]] 26)).alloc (.cells #[.nilFunc, .func (Fn.func 9) #[] #[.pointer (some ⟨w.heap.size + 1, 0, none⟩)], .func (Fn.func 10) #[] #[.pointer (some ⟨w.heap.size + 1 + 1, 0, none⟩)]] 26) := by
  have hmf : ∀ (fn : Fn) (first cap : Array Value) (w : World), (Instr.makeFunc fn first cap).run Yba.prog w = .ok (.func fn first cap) w := fun _ _ _ _ => rfl
  go_enter Yba.func5, Yba.ntmps5
  go_wp2
  exact bodyPost_ret (v := .agg #[.nilFunc, .func (Fn.func 9) #[] #[.pointer (some ⟨w.heap.size + 1, 0, none⟩)], .func (Fn.func 10) #[] #[.pointer (some ⟨w.heap.size + 1 + 1, 0, none⟩)]]) (by simp [results, Yba.results5, go_sem]) rfl ⟨rfl, rfl⟩

set_option maxHeartbeats 1000000 in
theorem rule_7 (a0 : Int) (b1 b2 b3 : Nat) (_h0 : 0 ≤ a0) (_h1 : a0 ≤ 255) (_hm : a0 % 8 = 7) (w : World) :
    Calls Yba.prog 5 #[.int .u8 a0, .pointer (some ⟨b1, 0, none⟩), .pointer (some ⟨b2, 0, none⟩), .pointer (some ⟨b3, 0, none⟩)] w fun e w' => e = .returned (.agg #[.func (Fn.func 8) #[] #[.pointer (some ⟨w.heap.size, 0, none⟩)], .func (Fn.func 9) #[] #[.pointer (some ⟨w.heap.size + 1, 0, none⟩)], .func (Fn.func 10) #[] #[.pointer (some ⟨w.heap.size + 1 + 1, 0, none⟩)]]) ∧
      w' = ((((w.alloc (.cells #[.pointer (some ⟨b1, 0, none⟩)] 28)).alloc (.cells #[.pointer (some ⟨b2, 0, none⟩)] 28)).alloc (.cells #[.pointer (some ⟨b3, 0, none⟩)] 28)).alloc (.cells #[.func (Fn.func 8) #[] #[.pointer (some ⟨w.heap.size, 0, none⟩)], .func (Fn.func 9) #[] #[.pointer (some ⟨w.heap.size + 1, 0, none⟩)], .func (Fn.func 10) #[] #[.pointer (some ⟨w.heap.size + 1 + 1, 0, none⟩)]] 26)).alloc (.cells #[.func (Fn.func 8) #[] #[.pointer (some ⟨w.heap.size, 0, none⟩)], .func (Fn.func 9) #[] #[.pointer (some ⟨w.heap.size + 1, 0, none⟩)], .func (Fn.func 10) #[] #[.pointer (some ⟨w.heap.size + 1 + 1, 0, none⟩)]] 26) := by
  have hmf : ∀ (fn : Fn) (first cap : Array Value) (w : World), (Instr.makeFunc fn first cap).run Yba.prog w = .ok (.func fn first cap) w := fun _ _ _ _ => rfl
  go_enter Yba.func5, Yba.ntmps5
  go_wp2
  exact bodyPost_ret (v := .agg #[.func (Fn.func 8) #[] #[.pointer (some ⟨w.heap.size, 0, none⟩)], .func (Fn.func 9) #[] #[.pointer (some ⟨w.heap.size + 1, 0, none⟩)], .func (Fn.func 10) #[] #[.pointer (some ⟨w.heap.size + 1 + 1, 0, none⟩)]]) (by simp [results, Yba.results5, go_sem]) rfl ⟨rfl, rfl⟩

set_option maxHeartbeats 1000000 in
theorem node_one (b n c p : Nat) (x : Int) (v2 v3 : Value) (h2 : v2 = .nilFunc ∨ ∃ q, v2 = .func (Fn.func 9) #[] #[q]) (h3 : v3 = .nilFunc ∨ ∃ q, v3 = .func (Fn.func 10) #[] #[q]) (w : World)
    (hn : 1 ≤ n) (hc0 : w.cell? ⟨b, 0, none⟩ = some (.iface 29 (.int .i64 x))) :
    Calls Yba.prog 6 #[.agg #[.func (Fn.func 8) #[] #[.pointer (some ⟨p, 0, none⟩)], v2, v3], .slice (some ⟨b, 0, none⟩) n c] w fun e w' =>
      e = .returned (.iface 35 (.agg #[.func (Fn.func 8) #[] #[.pointer (some ⟨p, 0, none⟩)], .iface 29 (.int .i64 x)])) ∧ ∃ nq, w' = (w.alloc (.cells #[.func (Fn.func 8) #[] #[.pointer (some ⟨p, 0, none⟩)], v2, v3] 26)).drewN nq := by
  have hb : b < w.heap.size := World.block_lt_of_cell? _ _ hc0
  have q1 := fun w fn first cap => run_neq_func_nil (P := Yba.prog) w Yba.underlying22 fn first cap
  have q2 := fun w fn first cap => run_neq_func_nil (P := Yba.prog) w Yba.underlying23 fn first cap
  have q1' := fun w => run_neq_nilfunc_nil (P := Yba.prog) w Yba.underlying22
  have q2' := fun w => run_neq_nilfunc_nil (P := Yba.prog) w Yba.underlying23
  have hn0 : (0 : Int) < (n : Int) := by omega
  rcases h2 with rfl | ⟨r2, rfl⟩ <;> rcases h3 with rfl | ⟨r3, rfl⟩ <;> (
    go_enter Yba.func6, Yba.ntmps6
    go_wp2
    go_quiet (fail)
    go_wp2
    go_ret
    exact ⟨rfl, nq, rfl⟩)

set_option maxHeartbeats 1000000 in
theorem node_two (b n c p : Nat) (x y : Int) (v3 : Value) (h3 : v3 = .nilFunc ∨ ∃ q, v3 = .func (Fn.func 10) #[] #[q]) (w : World)
    (hn : 2 ≤ n) (hc0 : w.cell? ⟨b, 0, none⟩ = some (.iface 29 (.int .i64 x))) (hc1 : w.cell? ⟨b, 1, none⟩ = some (.iface 29 (.int .i64 y))) :
    Calls Yba.prog 6 #[.agg #[.nilFunc, .func (Fn.func 9) #[] #[.pointer (some ⟨p, 0, none⟩)], v3], .slice (some ⟨b, 0, none⟩) n c] w fun e w' =>
      e = .returned (.iface 39 (.agg #[.func (Fn.func 9) #[] #[.pointer (some ⟨p, 0, none⟩)], .iface 29 (.int .i64 x), .iface 29 (.int .i64 y)])) ∧ ∃ nq, w' = (w.alloc (.cells #[.nilFunc, .func (Fn.func 9) #[] #[.pointer (some ⟨p, 0, none⟩)], v3] 26)).drewN nq := by
  have hb : b < w.heap.size := World.block_lt_of_cell? _ _ hc0
  have q1 := fun w fn first cap => run_neq_func_nil (P := Yba.prog) w Yba.underlying22 fn first cap
  have q2 := fun w fn first cap => run_neq_func_nil (P := Yba.prog) w Yba.underlying23 fn first cap
  have q1' := fun w => run_neq_nilfunc_nil (P := Yba.prog) w Yba.underlying22
  have q2' := fun w => run_neq_nilfunc_nil (P := Yba.prog) w Yba.underlying23
  have hn0 : (0 : Int) < (n : Int) := by omega
  have hn1 : (1 : Int) < (n : Int) := by omega
  rcases h3 with rfl | ⟨r3, rfl⟩ <;> (
    go_enter Yba.func6, Yba.ntmps6
    go_wp2
    go_quiet (fail)
    go_wp2
    go_ret
    exact ⟨rfl, nq, rfl⟩)

set_option maxHeartbeats 1000000 in
theorem node_three (b n c : Nat) (x y z : Int) (v3 : Value) (h3 : v3 = .nilFunc ∨ ∃ q, v3 = .func (Fn.func 10) #[] #[q]) (w : World)
    (hn : 3 ≤ n) (hc0 : w.cell? ⟨b, 0, none⟩ = some (.iface 29 (.int .i64 x))) (hc1 : w.cell? ⟨b, 1, none⟩ = some (.iface 29 (.int .i64 y))) (hc2 : w.cell? ⟨b, 2, none⟩ = some (.iface 29 (.int .i64 z))) :
    Calls Yba.prog 6 #[.agg #[.nilFunc, .nilFunc, v3], .slice (some ⟨b, 0, none⟩) n c] w fun e w' =>
      e = .returned (.iface 42 (.agg #[v3, .iface 29 (.int .i64 x), .iface 29 (.int .i64 y), .iface 29 (.int .i64 z)])) ∧ ∃ nq, w' = (w.alloc (.cells #[.nilFunc, .nilFunc, v3] 26)).drewN nq := by
  have hb : b < w.heap.size := World.block_lt_of_cell? _ _ hc0
  have q1 := fun w fn first cap => run_neq_func_nil (P := Yba.prog) w Yba.underlying22 fn first cap
  have q2 := fun w fn first cap => run_neq_func_nil (P := Yba.prog) w Yba.underlying23 fn first cap
  have q1' := fun w => run_neq_nilfunc_nil (P := Yba.prog) w Yba.underlying22
  have q2' := fun w => run_neq_nilfunc_nil (P := Yba.prog) w Yba.underlying23
  have hn0 : (0 : Int) < (n : Int) := by omega
  have hn1 : (1 : Int) < (n : Int) := by omega
  have hn2 : (2 : Int) < (n : Int) := by omega
  rcases h3 with rfl | ⟨r3, rfl⟩ <;> (
    go_enter Yba.func6, Yba.ntmps6
    go_wp2
    go_quiet (fail)
    go_wp2
    go_ret
    exact ⟨rfl, nq, rfl⟩)

set_option maxHeartbeats 1000000 in
theorem arity_1 (v1 v2 v3 : Value) (h1 : ∃ q, v1 = .func (Fn.func 8) #[] #[q]) (h2 : v2 = .nilFunc ∨ ∃ q, v2 = .func (Fn.func 9) #[] #[q]) (h3 : v3 = .nilFunc ∨ ∃ q, v3 = .func (Fn.func 10) #[] #[q]) (w : World) :
    Calls Yba.prog 7 #[.agg #[v1, v2, v3]] w fun e w' => e = .returned (.int .i64 1) ∧ w' = w.alloc (.cells #[v1, v2, v3] 26) := by
  have q1 := fun w fn first cap => run_neq_func_nil (P := Yba.prog) w Yba.underlying22 fn first cap
  have q2 := fun w fn first cap => run_neq_func_nil (P := Yba.prog) w Yba.underlying23 fn first cap
  have q1' := fun w => run_neq_nilfunc_nil (P := Yba.prog) w Yba.underlying22
  have q2' := fun w => run_neq_nilfunc_nil (P := Yba.prog) w Yba.underlying23
  rcases h1 with ⟨r1, rfl⟩ <;> rcases h2 with rfl | ⟨r2, rfl⟩ <;> rcases h3 with rfl | ⟨r3, rfl⟩ <;> (
    go_enter Yba.func7, Yba.ntmps7
    go_wp2
    go_ret
    exact ⟨rfl, rfl⟩)

set_option maxHeartbeats 1000000 in
theorem arity_2 (v1 v2 v3 : Value) (h1 : v1 = .nilFunc) (h2 : ∃ q, v2 = .func (Fn.func 9) #[] #[q]) (h3 : v3 = .nilFunc ∨ ∃ q, v3 = .func (Fn.func 10) #[] #[q]) (w : World) :
    Calls Yba.prog 7 #[.agg #[v1, v2, v3]] w fun e w' => e = .returned (.int .i64 2) ∧ w' = w.alloc (.cells #[v1, v2, v3] 26) := by
  have q1 := fun w fn first cap => run_neq_func_nil (P := Yba.prog) w Yba.underlying22 fn first cap
  have q2 := fun w fn first cap => run_neq_func_nil (P := Yba.prog) w Yba.underlying23 fn first cap
  have q1' := fun w => run_neq_nilfunc_nil (P := Yba.prog) w Yba.underlying22
  have q2' := fun w => run_neq_nilfunc_nil (P := Yba.prog) w Yba.underlying23
  rcases h1 with rfl <;> rcases h2 with ⟨r2, rfl⟩ <;> rcases h3 with rfl | ⟨r3, rfl⟩ <;> (
    go_enter Yba.func7, Yba.ntmps7
    go_wp2
    go_ret
    exact ⟨rfl, rfl⟩)

set_option maxHeartbeats 1000000 in
theorem arity_3 (v1 v2 v3 : Value) (h1 : v1 = .nilFunc) (h2 : v2 = .nilFunc) (h3 : v3 = .nilFunc ∨ ∃ q, v3 = .func (Fn.func 10) #[] #[q]) (w : World) :
    Calls Yba.prog 7 #[.agg #[v1, v2, v3]] w fun e w' => e = .returned (.int .i64 3) ∧ w' = w.alloc (.cells #[v1, v2, v3] 26) := by
  have q1 := fun w fn first cap => run_neq_func_nil (P := Yba.prog) w Yba.underlying22 fn first cap
  have q2 := fun w fn first cap => run_neq_func_nil (P := Yba.prog) w Yba.underlying23 fn first cap
  have q1' := fun w => run_neq_nilfunc_nil (P := Yba.prog) w Yba.underlying22
  have q2' := fun w => run_neq_nilfunc_nil (P := Yba.prog) w Yba.underlying23
  rcases h1 with rfl <;> rcases h2 with rfl <;> rcases h3 with rfl | ⟨r3, rfl⟩ <;> (
    go_enter Yba.func7, Yba.ntmps7
    go_wp2
    go_ret
    exact ⟨rfl, rfl⟩)

set_option maxHeartbeats 1000000 in
theorem clo_1 (bx p : Nat) (w : World) (hc : w.cell? ⟨bx, 0, none⟩ = some (.pointer (some ⟨p, 0, none⟩))) (hp : w.cell? ⟨p, 0, none⟩ = some (.int .i64 0)) (hf : w.frozen? ⟨p, 0, none⟩ = false) :
    Calls Yba.prog 8 #[.float .f64 0, .pointer (some ⟨bx, 0, none⟩)] w fun e w' => e = .returned (.float .f64 4607182418800017408) ∧ w' = (w.setCell ⟨p, 0, none⟩ (.int .i64 1)).drew := by
  go_enter Yba.func8, Yba.ntmps8
  go_wp2
  go_region
  all_goals (go_wp2; go_ret; exact ⟨rfl, rfl⟩)

set_option maxHeartbeats 1000000 in
theorem clo_2 (bx p : Nat) (w : World) (hc : w.cell? ⟨bx, 0, none⟩ = some (.pointer (some ⟨p, 0, none⟩))) (hp : w.cell? ⟨p, 0, none⟩ = some (.int .i64 0)) (hf : w.frozen? ⟨p, 0, none⟩ = false) :
    Calls Yba.prog 9 #[.float .f64 0, .float .f64 0, .pointer (some ⟨bx, 0, none⟩)] w fun e w' => e = .returned (.float .f64 4611686018427387904) ∧ w' = (w.setCell ⟨p, 0, none⟩ (.int .i64 1)).drew := by
  go_enter Yba.func9, Yba.ntmps9
  go_wp2
  go_region
  all_goals (go_wp2; go_ret; exact ⟨rfl, rfl⟩)

set_option maxHeartbeats 1000000 in
theorem clo_3 (bx p : Nat) (w : World) (hc : w.cell? ⟨bx, 0, none⟩ = some (.pointer (some ⟨p, 0, none⟩))) (hp : w.cell? ⟨p, 0, none⟩ = some (.int .i64 0)) (hf : w.frozen? ⟨p, 0, none⟩ = false) :
    Calls Yba.prog 10 #[.float .f64 0, .float .f64 0, .float .f64 0, .pointer (some ⟨bx, 0, none⟩)] w fun e w' => e = .returned (.float .f64 4613937818241073152) ∧ w' = (w.setCell ⟨p, 0, none⟩ (.int .i64 1)).drew := by
  go_enter Yba.func10, Yba.ntmps10
  go_wp2
  go_region
  all_goals (go_wp2; go_ret; exact ⟨rfl, rfl⟩)

end Go.Proofs.Ybulkcoby
