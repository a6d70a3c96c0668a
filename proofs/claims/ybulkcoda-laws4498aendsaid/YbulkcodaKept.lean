import Derived.Test.YbulkcodaRows
import Derived.WalkKit
import Derived.WalkSpells
import Derived.WalkLawsBesides
import Derived.Laws.EntriesVeiled
import Derived.Test.YbulkcodaFloat
namespace Go.Proofs.Ybulkcoda
open Go.RowKit

/-- w' is w with new blocks, and with writes to the blocks of 'ex' alone. -/
structure Kept (ex : List Nat) (w w' : World) : Prop where
  os : w'.os = w.os
  tape : w'.tape = w.tape
  output : w'.output = w.output
  size : w.heap.size ≤ w'.heap.size
  block : ∀ k, k < w.heap.size → ¬ k ∈ ex → w'.heap[k]? = w.heap[k]?

theorem Kept.refl (ex : List Nat) (w : World) : Kept ex w w := ⟨rfl, rfl, rfl, Nat.le_refl _, fun _ _ _ => rfl⟩
theorem Kept.trans {ex : List Nat} {a b c : World} (h : Kept ex a b) (k : Kept ex b c) : Kept ex a c :=
  ⟨k.os.trans h.os, k.tape.trans h.tape, k.output.trans h.output, Nat.le_trans h.size k.size, fun i hi he => (k.block i (Nat.lt_of_lt_of_le hi h.size) he).trans (h.block i hi he)⟩
theorem Kept.weaken {ex ex' : List Nat} {a b : World} (h : Kept ex a b) (hx : ∀ k, k ∈ ex → k ∈ ex') : Kept ex' a b :=
  ⟨h.os, h.tape, h.output, h.size, fun i hi he => h.block i hi (fun hm => he (hx i hm))⟩
theorem Kept.drew {ex : List Nat} {a b : World} (h : Kept ex a b) : Kept ex a b.drew := ⟨h.os, h.tape, h.output, h.size, h.block⟩
theorem Kept.drewN {ex : List Nat} {a b : World} (h : Kept ex a b) (n : Nat) : Kept ex a (b.drewN n) := ⟨h.os, h.tape, h.output, h.size, h.block⟩
theorem Kept.alloc {ex : List Nat} {a b : World} (h : Kept ex a b) (o : Obj) : Kept ex a (b.alloc o) :=
  h.trans ⟨rfl, rfl, rfl, by simp, fun k hk _ => Below.heap_alloc _ _ _ hk⟩
theorem Kept.setCell {ex : List Nat} {a b : World} (h : Kept ex a b) {p : Addr} (hp : p.block ∈ ex ∨ a.heap.size ≤ p.block) (u : Value) : Kept ex a (b.setCell p u) :=
  ⟨h.os, h.tape, h.output, by simpa [World.setCell] using h.size, fun k hk he => (Below.heap_setCell _ _ _ _ (by
    intro e; subst e; rcases hp with hp | hp
    · exact he hp
    · omega)).trans (h.block k hk he)⟩
theorem Kept.grown {ex : List Nat} {a b c : World} {row : Option Nat} (h : Kept ex a b) (hg : b.grownBy c row) (hr : ∀ k, row = some k → k ∈ ex ∨ a.heap.size ≤ k) : Kept ex a c :=
  ⟨hg.os.trans h.os, hg.tape.trans h.tape, hg.output.trans h.output, Nat.le_trans h.size hg.size, fun k hk he => (hg.block k (Nat.lt_of_lt_of_le hk h.size) (fun e => by
    rcases hr k e.symm with hp | hp
    · exact he hp
    · omega)).trans (h.block k hk he)⟩
/-- Changes confined to what is new since a, seen from a. -/
theorem Kept.after {ex ex' : List Nat} {a b c : World} (h : Kept ex a b) (k : Kept ex' b c) (hx : ∀ i, i ∈ ex' → i ∈ ex ∨ a.heap.size ≤ i) : Kept ex a c :=
  ⟨k.os.trans h.os, k.tape.trans h.tape, k.output.trans h.output, Nat.le_trans h.size k.size, fun i hi he => (k.block i (Nat.lt_of_lt_of_le hi h.size) (fun hm => by
    rcases hx i hm with hp | hp
    · exact he hp
    · omega)).trans (h.block i hi he)⟩
theorem Kept.below {ex : List Nat} {a b : World} (h : Kept ex a b) {B : Nat} (hB : B ≤ a.heap.size) (hx : ∀ k, k ∈ ex → B ≤ k) : Below B a b :=
  ⟨h.os, h.tape, h.output, h.size, fun k hk => h.block k (by omega) (fun hm => by have := hx k hm; omega)⟩
theorem Kept.cell {ex : List Nat} {w w' : World} (h : Kept ex w w') {p : Addr} (hp : p.block < w.heap.size) (he : ¬ p.block ∈ ex) : w'.cell? p = w.cell? p :=
  World.cell?_of_block (w := w) (h.block p.block hp he)
theorem Kept.frozen {ex : List Nat} {w w' : World} (h : Kept ex w w') {p : Addr} (hp : p.block < w.heap.size) (he : ¬ p.block ∈ ex) : w'.frozen? p = w.frozen? p :=
  World.frozen?_of_block (w := w) (h.block p.block hp he)
/-- A cell that was there is there. -/
theorem Kept.cellSome {ex : List Nat} {w w' : World} (h : Kept ex w w') {p : Addr} {v : Value} (hv : w.cell? p = some v) (he : ¬ p.block ∈ ex) : w'.cell? p = some v :=
  (h.cell (World.block_lt_of_cell? _ _ hv) he).trans hv

theorem hide {p : Prop} (h : p) : Hid p := h
theorem unhide {p : Prop} (h : Hid p) : p := h
theorem addr_add (b off j : Nat) : (⟨b, off, none⟩ : Addr).add j = ⟨b, off + j, none⟩ := by
  by_cases h : j = 0
  · subst h; simp [Addr.add]
  · simp [Addr.add, h]
end Go.Proofs.Ybulkcoda
