import Derived.Test.YbulkcobyParts
namespace Go.Proofs.Ybulkcoby
open Go.RowKit

theorem grown_drewN {W w' : World} (h : Grown W w') (n : Nat) : Grown W (w'.drewN n) := h

theorem clo_after {w w' : World} {p : Nat} (hp : w.cell? ⟨p, 0, none⟩ = some (.int .i64 0)) (h : w' = (w.setCell ⟨p, 0, none⟩ (.int .i64 1)).drew) :
    w'.cell? ⟨p, 0, none⟩ = some (.int .i64 1) ∧ (∀ q : Nat, ¬ q = p → w'.cell? ⟨q, 0, none⟩ = w.cell? ⟨q, 0, none⟩) ∧ (∀ W : World, Grown W w → W.heap.size ≤ p → Grown W w') := by
  subst h
  refine ⟨?_, fun q hq => ?_, fun W hg hp => (hg.setCell hp _).drew⟩
  · exact World.cell?_setCell_same _ _ _ hp
  · exact World.cell?_setCell_other _ _ _ _ (fun e => hq (by cases e; rfl))

theorem ta35 (w : World) (v : Value) : (Instr.typeAssert (.iface 35 v) 32 35 true).run Yba.prog w = .ok (.tuple #[v, .bool true]) w := by kernel_rfl
theorem ta39 (w : World) (v : Value) : (Instr.typeAssert (.iface 39 v) 32 39 true).run Yba.prog w = .ok (.tuple #[v, .bool true]) w := by kernel_rfl
theorem ta42 (w : World) (v : Value) : (Instr.typeAssert (.iface 42 v) 32 42 true).run Yba.prog w = .ok (.tuple #[v, .bool true]) w := by kernel_rfl

end Go.Proofs.Ybulkcoby
