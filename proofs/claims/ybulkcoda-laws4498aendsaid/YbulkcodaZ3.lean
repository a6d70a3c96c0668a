import Derived.Test.YbulkcodaZ2
import Derived.Deep.RegionWith
namespace Go.Proofs.Ybulkcoda
open Go.RowKit

/-- What simulation.at leaves: the event, or the error. -/
def AtRes (w : World) (S now t : Nat) (fn : Value) : Prop :=
  (before t = true ∧ ∃ ev, Sim w S now ev (.int .u64 1) .nilIface ∧ Ev w ev t fn) ∨
  (before t = false ∧ ∃ T, Sim w S now (.slice none 0 0) (.int .u64 0) (.iface 60 (.pointer (some ⟨T, 0, none⟩))) ∧ w.heap[T]? = some (.cells #[.float .f64 now, .int .i64 0, .float .f64 t] 63))

set_option maxRecDepth 100000 in
set_option maxHeartbeats 1000000 in
theorem at_any (S now t : Nat) (fi : Fn) (ff fc : Array Value) (w : World) (h : Sim w S now (.slice none 0 0) (.int .u64 0) .nilIface) :
    Calls Yba.prog 27 #[.pointer (some ⟨S, 0, none⟩), .float .f64 t, .func fi ff fc] w fun e w' => e = .returned (.tuple #[]) ∧ AtRes w' S now t (.func fi ff fc) ∧ Kept [S] w w' := by
  obtain ⟨c0, c1, c2, c3, f1, f2, f3, lS⟩ := h.cells
  have hsf := fun (w : World) (a : Addr) (b : Nat) (m : Mode) => run_store Yba.prog w a (.float .f64 b) m rfl
  go_enter Yba.func27, Yba.ntmps27
  go_wp2_with fail
  refine (before_any t w).mono ?_
  rintro e w1 ⟨rfl, rfl⟩
  cases hb : before t with
  | true =>
    have Hb := hide hb
    clear hb
    have h2 : Sim (w1.setCell ⟨S, 2, none⟩ (.int .u64 1)) S now (.slice none 0 0) (.int .u64 1) .nilIface := h.setSc _
    have k2 : Kept [S] w1 (w1.setCell ⟨S, 2, none⟩ (.int .u64 1)) := (Kept.refl [S] w1).setCell (p := ⟨S, 2, none⟩) (Or.inl (by simp)) _
    go_wp2
    go_region_with (go_at_call 31; refine (push_ev S now t fi ff fc (.int .u64 1) .nilIface _ (by exact h2)).mono ?_; rintro e w3 ⟨rfl, ev, hs3, he3, hk3⟩)
    all_goals
      go_wp2
      go_end0
      exact ⟨rfl, Or.inl ⟨unhide Hb, ev, hs3, he3⟩, (k2.drew).trans hk3⟩
  | false =>
    have Hb := hide hb
    clear hb
    go_wp2
    have h2 : Sim ((w1.setCell ⟨S, 12, none⟩ (.iface 60 (.pointer (some ⟨w1.heap.size, 0, none⟩)))).alloc (.cells #[.float .f64 now, .int .i64 0, .float .f64 t] 63)) S now (.slice none 0 0) (.int .u64 0) (.iface 60 (.pointer (some ⟨w1.heap.size, 0, none⟩))) := (h.setEr _).kept ((Kept.refl [] _).alloc _) (by simp)
    have hz : (w1.setCell ⟨S, 12, none⟩ (.iface 60 (.pointer (some ⟨w1.heap.size, 0, none⟩)))).heap.size = w1.heap.size := by simp [World.setCell]
    refine bodyPost_ret (v := .tuple #[]) (results_none rfl _ _ _) rfl ⟨rfl, Or.inr ⟨unhide Hb, w1.heap.size, h2, ?_⟩, ((Kept.refl [S] w1).setCell (p := ⟨S, 12, none⟩) (Or.inl (by simp)) _).alloc _⟩
    have := (MapKept.heap_alloc (w1.setCell ⟨S, 12, none⟩ (.iface 60 (.pointer (some ⟨w1.heap.size, 0, none⟩)))) (.cells #[.float .f64 now, .int .i64 0, .float .f64 t] 63)).1
    rw [hz] at this
    exact this
end Go.Proofs.Ybulkcoda
