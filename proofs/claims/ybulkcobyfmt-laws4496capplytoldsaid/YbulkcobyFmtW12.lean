import Derived.Test.YbulkcobyFmtW11
import Derived.Deep.QuietTactic
import Derived.BigQuiet
namespace Go.Proofs.YbulkcobyFmt
open Go.RowKit Go.Extern.Stop Go.Stop Go.Extern

theorem run_neq_err_some (w : World) (b : Nat) : (binOp .neq 33 (.pointer (some ⟨b, 0, none⟩)) (.pointer none)).run Ybaf.prog w = .ok (.bool true) w := by kernel_rfl
theorem ta33 (w : World) (v : Value) : (Instr.typeAssert (.iface 33 v) 28 33 true).run Ybaf.prog w = .ok (.tuple #[v, .bool true]) w := by kernel_rfl

set_option maxHeartbeats 400000 in
theorem syntax_any (E : Nat) (pos : Int) (w : World) (hE : ErrAt w E pos) :
    Calls Ybaf.prog 13 #[.iface 33 (.pointer (some ⟨E, 0, none⟩)), .int .i64 pos] w fun e w' => e = .returned (.bool true) ∧ w' = w := by
  obtain ⟨s, hs⟩ := hE
  have hc : w.cell? ⟨E, 0, none⟩ = some (.int .i64 (wrap64 (pos + 1))) := by simp [World.cell?, hs]
  have q1 := run_neq_err_some
  have q2 := ta33
  clear hs
  go_enter Ybaf.func13, Ybaf.ntmps13
  go_wp2
  go_ret
  simp

set_option maxRecDepth 100000 in
set_option maxHeartbeats 1000000 in
theorem ceq_some (S V off n c vc : Nat) (vs : List Nat) (w : World) (hn : n ≤ 1024) (hs : ∀ j, j < n → w.cell? ⟨S, j, none⟩ = some (.iface 26 (.float .f64 (vs.getD j 0)))) (hv : ∀ j, j < n → w.cell? ⟨V, off + j, none⟩ = some (.float .f64 (vs.getD j 0))) :
    Calls Ybaf.prog 14 #[.slice (some ⟨S, 0, none⟩) n c, .slice (some ⟨V, off, none⟩) n vc] w fun e w' => e = .returned (.bool true) ∧ ∃ q, w' = w.drewN q := by
  have hb := bits15
  have ta := ta26
  go_enter Ybaf.func14, Ybaf.ntmps14
  go_wp2
  go_loopw [15] (fun i wr => ∃ k : Nat, k ≤ n ∧ i = .int .i64 k ∧ ∃ q, wr = w.drewN q) (fun i _ => n - (intOf i).toNat)
  case atStart => exact ⟨0, Nat.zero_le _, rfl, 0, rfl⟩
  case round =>
    obtain ⟨k, hk, rfl, q, rfl⟩ := hrel
    by_cases hlt : k < n
    · have h1 := hs k hlt
      have h2 := hv k hlt
      have b1 : (0 : Int) ≤ (k : Int) := by omega
      have b2 : (k : Int) < (n : Int) := by omega
      clear hs hv
      go_wp2
      trace_state
      go_quiet (fail)
      go_wp2
      go_roundw
      case rel => exact ⟨k + 1, by omega, by go_num, _, rfl⟩
      case measure => simp [intOf]; omega
    · go_wp2
      go_ret
      exact ⟨rfl, q, rfl⟩
end Go.Proofs.YbulkcobyFmt
