import Derived.Test.YbulkcobyFmtW01
import Derived.Deep.RegionHeld3
namespace Go.Proofs.YbulkcobyFmt
open Go.RowKit Go.Extern.Stop Go.Stop Go.Extern

theorem s1_drew {ex : List Nat} {w W : World} {a : Addr} {v : Value} (h : W.cell? a = some v ∧ Kept ex w W) : W.drew.cell? a = some v ∧ Kept ex w W.drew := ⟨h.1, h.2.drew⟩
theorem s1_alloc {ex : List Nat} {w W : World} {a : Addr} {v : Value} {o : Obj} (h : W.cell? a = some v ∧ Kept ex w W) : (W.alloc o).cell? a = some v ∧ Kept ex w (W.alloc o) :=
  ⟨((Kept.refl [] W).alloc o).cellSome h.1 (by simp), h.2.alloc o⟩
theorem s1_kept {ex : List Nat} {w W W1 : World} {a : Addr} {v : Value} (h : W.cell? a = some v ∧ Kept ex w W) (hk : Kept [] W W1) : W1.cell? a = some v ∧ Kept ex w W1 :=
  ⟨hk.cellSome h.1 (by simp), h.2.trans (hk.weaken (by simp))⟩

/-- A *SyntaxError at pos + 1 lies at block E. -/
def ErrAt (w : World) (E : Nat) (pos : Int) : Prop := ∃ s : ByteArray, w.heap[E]? = some (.cells #[.int .i64 (wrap64 (pos + 1)), .string s] 36)
theorem errAt_mk {w : World} {E : Nat} {pos x : Int} {s : ByteArray} (hx : x = wrap64 (pos + 1)) (hE : E = w.heap.size) : ErrAt (w.alloc (.cells #[.int .i64 x, .string s] 36)).drew E pos := by
  subst hx; subst hE
  exact ⟨s, (MapKept.heap_alloc w _).1⟩

set_option maxRecDepth 100000 in
set_option maxHeartbeats 1000000 in
theorem pop_err (P S m c : Nat) (n pos : Int) (w : World) (hc : w.cell? ⟨P, 8, none⟩ = some (.slice (some ⟨S, 0, none⟩) m c)) (hlt : (m : Int) < n) :
    Calls Ybaf.prog 19 #[.pointer (some ⟨P, 0, none⟩), .string ⟨#[79, 80]⟩, .int .i64 n, .int .i64 pos] w fun e w' =>
      ∃ E, e = .returned (.tuple #[.slice none 0 0, .iface 33 (.pointer (some ⟨E, 0, none⟩))]) ∧ ErrAt w' E pos ∧ w.heap.size ≤ E ∧ Kept [] w w' := by
  obtain ⟨T, hT⟩ := sprintfPopF
  unfold fmtPop at hT
  have hI := isI_mk
  have hS := isS_mk
  have hP : P < w.heap.size := World.block_lt_of_cell? _ _ hc
  go_enter Ybaf.func19, Ybaf.ntmps19
  go_wp2
  go_region_held3 (fun w' => w'.cell? ⟨P, 8, none⟩ = some (.slice (some ⟨S, 0, none⟩) m c) ∧ Kept [] w w')
    (first | exact ⟨hc, (Kept.refl _ _).drew⟩ | exact s1_kept (by assumption) (by assumption) | exact s1_drew (by assumption) | exact s1_alloc (by assumption) | exact s1_drew (s1_alloc (by assumption)))
    ((go_at_call 23; refine (quantity_any _ _).mono ?_; rintro e w1 ⟨s, rfl, hk⟩))
  go_wp2
  go_ret2
  refine ⟨w1.heap.size + 1, rfl, ?_, ?_, ?_⟩
  · exact errAt_mk (by unfold wrap64; exact IntKind.wrap_i64 _) (by simp)
  · have := hk.size; simp at this; omega
  · exact ((((Kept.refl _ w).drew).trans hk).alloc _).alloc _ |>.drew
end Go.Proofs.YbulkcobyFmt
