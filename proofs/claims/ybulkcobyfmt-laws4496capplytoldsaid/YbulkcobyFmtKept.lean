import Derived.Test.YbulkcobyFmtFacts
namespace Go.Proofs.YbulkcobyFmt
open Go.RowKit Go.Extern.Stop Go.Stop Go.Extern

/-- w' is w with new blocks, and with writes to the blocks of 'ex' alone. -/
structure Kept (ex : List Nat) (w w' : World) : Prop where
  os : w'.os = w.os
  tape : w'.tape = w.tape
  output : w'.output = w.output
  size : w.heap.size ≤ w'.heap.size
  block : ∀ k, k < w.heap.size → ¬ k ∈ ex → w'.heap[k]? = w.heap[k]?

theorem Kept.refl (ex : List Nat) (w : World) : Kept ex w w := ⟨rfl, rfl, rfl, Nat.le_refl _, fun _ _ _ => rfl⟩
theorem Kept.trans {ex : List Nat} {a b c : World} (h : Kept ex a b) (k : Kept ex b c) : Kept ex a c :=
  ⟨k.os.trans h.os, k.tape.trans h.tape, k.output.trans h.output, Nat.le_trans h.size k.size, fun i hi he => (k.block i (Nat.lt_of_lt_of_le hi h.size) he).trans (h.block i hi he)⟩
theorem Kept.weaken {ex ex' : List Nat} {a b : World} (h : Kept ex a b) (hx : ∀ k, k ∈ ex → k ∈ ex') : Kept ex' a b :=
  ⟨h.os, h.tape, h.output, h.size, fun i hi he => h.block i hi (fun hm => he (hx i hm))⟩
theorem Kept.drew {ex : List Nat} {a b : World} (h : Kept ex a b) : Kept ex a b.drew := ⟨h.os, h.tape, h.output, h.size, h.block⟩
theorem Kept.drewN {ex : List Nat} {a b : World} (h : Kept ex a b) (n : Nat) : Kept ex a (b.drewN n) := ⟨h.os, h.tape, h.output, h.size, h.block⟩
theorem Kept.alloc {ex : List Nat} {a b : World} (h : Kept ex a b) (o : Obj) : Kept ex a (b.alloc o) :=
  h.trans ⟨rfl, rfl, rfl, by simp, fun k hk _ => Below.heap_alloc _ _ _ hk⟩
theorem Kept.setCell {ex : List Nat} {a b : World} (h : Kept ex a b) {p : Addr} (hp : p.block ∈ ex ∨ a.heap.size ≤ p.block) (u : Value) : Kept ex a (b.setCell p u) :=
  ⟨h.os, h.tape, h.output, by simpa [World.setCell] using h.size, fun k hk he => (Below.heap_setCell _ _ _ _ (by
    intro e; subst e; rcases hp with hp | hp
    · exact he hp
    · omega)).trans (h.block k hk he)⟩
theorem Kept.grown {ex : List Nat} {a b c : World} {row : Option Nat} (h : Kept ex a b) (hg : b.grownBy c row) (hr : ∀ k, row = some k → k ∈ ex ∨ a.heap.size ≤ k) : Kept ex a c :=
  ⟨hg.os.trans h.os, hg.tape.trans h.tape, hg.output.trans h.output, Nat.le_trans h.size hg.size, fun k hk he => (hg.block k (Nat.lt_of_lt_of_le hk h.size) (fun e => by
    rcases hr k e.symm with hp | hp
    · exact he hp
    · omega)).trans (h.block k hk he)⟩
/-- Changes confined to what is new since a, seen from a. -/
theorem Kept.after {ex ex' : List Nat} {a b c : World} (h : Kept ex a b) (k : Kept ex' b c) (hx : ∀ i, i ∈ ex' → i ∈ ex ∨ a.heap.size ≤ i) : Kept ex a c :=
  ⟨k.os.trans h.os, k.tape.trans h.tape, k.output.trans h.output, Nat.le_trans h.size k.size, fun i hi he => (k.block i (Nat.lt_of_lt_of_le hi h.size) (fun hm => by
    rcases hx i hm with hp | hp
    · exact he hp
    · omega)).trans (h.block i hi he)⟩
theorem Kept.below {ex : List Nat} {a b : World} (h : Kept ex a b) {B : Nat} (hB : B ≤ a.heap.size) (hx : ∀ k, k ∈ ex → B ≤ k) : Below B a b :=
  ⟨h.os, h.tape, h.output, h.size, fun k hk => h.block k (by omega) (fun hm => by have := hx k hm; omega)⟩
theorem Kept.cell {ex : List Nat} {w w' : World} (h : Kept ex w w') {p : Addr} (hp : p.block < w.heap.size) (he : ¬ p.block ∈ ex) : w'.cell? p = w.cell? p :=
  World.cell?_of_block (w := w) (h.block p.block hp he)
theorem Kept.frozen {ex : List Nat} {w w' : World} (h : Kept ex w w') {p : Addr} (hp : p.block < w.heap.size) (he : ¬ p.block ∈ ex) : w'.frozen? p = w.frozen? p :=
  World.frozen?_of_block (w := w) (h.block p.block hp he)
/-- A cell that was there is there. -/
theorem Kept.cellSome {ex : List Nat} {w w' : World} (h : Kept ex w w') {p : Addr} {v : Value} (hv : w.cell? p = some v) (he : ¬ p.block ∈ ex) : w'.cell? p = some v :=
  (h.cell (World.block_lt_of_cell? _ _ hv) he).trans hv

/-- What the walk asks of the operands of fmt.Sprintf. -/
def isS : Option Value → Bool
  | some (.iface 9 (.string _)) => true
  | _ => false
def isI : Option Value → Bool
  | some (.iface 3 (.int .i64 _)) => true
  | _ => false
theorem isS_mk (s : ByteArray) : isS (some (.iface 9 (.string s))) = true := rfl
theorem isI_mk (n : Int) : isI (some (.iface 3 (.int .i64 n))) = true := rfl
theorem isS_out {v : Option Value} (h : isS v = true) : ∃ s, v = some (.iface 9 (.string s)) := by
  unfold isS at h
  split at h
  · exact ⟨_, rfl⟩
  · cases h
theorem isI_out {v : Option Value} (h : isI v = true) : ∃ n, v = some (.iface 3 (.int .i64 n)) := by
  unfold isI at h
  split at h
  · exact ⟨_, rfl⟩
  · cases h

theorem sprintfPopF : ∃ T : World → Nat → ByteArray, ∀ (w : World) (b : Nat), isS (w.cell? ⟨b, 0, none⟩) = true → isS (w.cell? ⟨b, 1, none⟩) = true → isI (w.cell? ⟨b, 2, none⟩) = true →
    (callFunc 17 #[.string fmtPop, .slice (some ⟨b, 0, none⟩) 3 3]).run Ybaf.prog w = .ok (.value (.string (T w b))) w.drew := by
  refine ⟨fun w b => Classical.epsilon fun s => (callFunc 17 #[.string fmtPop, .slice (some ⟨b, 0, none⟩) 3 3]).run Ybaf.prog w = .ok (.value (.string s)) w.drew, fun w b h0 h1 h2 => ?_⟩
  obtain ⟨s0, e0⟩ := isS_out h0
  obtain ⟨s1, e1⟩ := isS_out h1
  obtain ⟨n, e2⟩ := isI_out h2
  exact Classical.epsilon_spec (sprintfPop w b s0 s1 n e0 e1 e2)
theorem sprintfLitF : ∃ T : World → Nat → ByteArray, ∀ (w : World) (b : Nat), isS (w.cell? ⟨b, 0, none⟩) = true → isS (w.cell? ⟨b, 1, none⟩) = true → isS (w.cell? ⟨b, 2, none⟩) = true →
    (callFunc 17 #[.string fmtLit, .slice (some ⟨b, 0, none⟩) 3 3]).run Ybaf.prog w = .ok (.value (.string (T w b))) w.drew := by
  refine ⟨fun w b => Classical.epsilon fun s => (callFunc 17 #[.string fmtLit, .slice (some ⟨b, 0, none⟩) 3 3]).run Ybaf.prog w = .ok (.value (.string s)) w.drew, fun w b h0 h1 h2 => ?_⟩
  obtain ⟨s0, e0⟩ := isS_out h0
  obtain ⟨s1, e1⟩ := isS_out h1
  obtain ⟨n, e2⟩ := isS_out h2
  exact Classical.epsilon_spec (sprintfLit w b s0 s1 n e0 e1 e2)
theorem sprintfQtyF : ∃ T : World → Nat → ByteArray, ∀ (w : World) (b : Nat), isI (w.cell? ⟨b, 0, none⟩) = true → isS (w.cell? ⟨b, 1, none⟩) = true →
    (callFunc 17 #[.string fmtQty, .slice (some ⟨b, 0, none⟩) 2 2]).run Ybaf.prog w = .ok (.value (.string (T w b))) w.drew := by
  refine ⟨fun w b => Classical.epsilon fun s => (callFunc 17 #[.string fmtQty, .slice (some ⟨b, 0, none⟩) 2 2]).run Ybaf.prog w = .ok (.value (.string s)) w.drew, fun w b h0 h1 => ?_⟩
  obtain ⟨s0, e0⟩ := isI_out h0
  obtain ⟨s1, e1⟩ := isS_out h1
  exact Classical.epsilon_spec (sprintfQty w b s0 s1 e0 e1)
end Go.Proofs.YbulkcobyFmt
