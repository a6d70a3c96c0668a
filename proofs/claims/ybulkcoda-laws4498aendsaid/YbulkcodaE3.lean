import Derived.Test.YbulkcodaE2
import Derived.Test.YbulkcodaB4
namespace Go.Proofs.Ybulkcoda
open Go.ChangeShapes Go.WideShapes Go.ChangeAt Go.RowKit Go.Deep

theorem cells5 : Yba.prog.cellsOf 5 = 1 := by kernel_rfl
theorem cells84 : Yba.prog.cellsOf 84 = 1 := by kernel_rfl
theorem cells86 : Yba.prog.cellsOf 86 = 3 := by kernel_rfl

theorem byte_of_wf {n : Int} (h : (Lit.int .u8 n).wf = true) : ∃ x : Nat, n = (x : Int) ∧ x < 256 := by
  have h2 : IntKind.u8.min ≤ n ∧ n ≤ IntKind.u8.max := by simpa [Lit.wf] using h
  have e1 : IntKind.u8.min = 0 := by decide
  have e2 : IntKind.u8.max = 255 := by decide
  rw [e1, e2] at h2
  exact ⟨n.toNat, by omega, by omega⟩

section
variable {H : Type} {enc : TypeId × Value → H} {W : World} {base : Nat} {spare : Nat → Bool} {held : Bool}

theorem bytes_open {fuel : Nat} {v : Value} {y : DataW H × List MemPlace} (h : DataW.trod enc Yba.prog W base spare held fuel 84 [v] = some y) :
    ∃ (sa : Option Addr) (len cap : Nat) (X : Nat → Nat), v = .slice sa len cap ∧ InB W sa len X := by
  rcases open_slice1 Yba.underlying84 cells5 h with ⟨hcs, _⟩ | ⟨a, len, cap, m, n, V, D, Pl, hcs, hb, hl, hm, hmm, hx, hi⟩
  · simp at hcs
    exact ⟨none, 0, 0, fun _ => 0, hcs, Or.inl rfl⟩
  · simp at hcs
    subst hcs
    by_cases h0 : len = 0
    · exact ⟨some a, len, cap, fun _ => 0, rfl, Or.inl h0⟩
    have hle : len ≤ m := by rw [hmm]; split <;> omega
    have hx : ∀ i, i < len → ∃ x : Nat, W.cell? (a.add i) = some (.int .u8 (x : Nat)) ∧ x < 256 := by
      intro i hlt
      obtain ⟨e1, e2⟩ := hi i (by omega)
      obtain ⟨z, e3, _, e4⟩ := DataW.trod_int Yba.underlying5 e2
      obtain ⟨x, rfl, hx⟩ := byte_of_wf e4
      simp at e3
      exact ⟨x, by rw [e1, e3], hx⟩
    obtain ⟨b, off, spot⟩ := a
    have hspot : spot = none := by
      obtain ⟨x, e, _⟩ := hx 0 (by omega)
      simpa [Addr.add] using World.cell?_spot e
    subst hspot
    obtain ⟨f, hf⟩ := choose_lt hx
    refine ⟨some ⟨b, off, none⟩, len, cap, f, rfl, Or.inr ⟨b, off, rfl, fun j hj => ?_⟩⟩
    have e := hf j hj
    rw [addr_add] at e
    exact e

theorem tick_cell {fuel : Nat} {cs : List Value} {y : DataW H × List MemPlace} (h : DataW.trod enc Yba.prog W base spare held fuel 86 cs = some y) :
    ∃ (nm : ByteArray) (sa : Option Addr) (la ca : Nat) (X : Nat → Nat) (sb : Option Addr) (lb cb : Nat) (Y : Nat → Nat), cs = [.string nm, .slice sa la ca, .slice sb lb cb] ∧ InB W sa la X ∧ InB W sb lb Y := by
  obtain ⟨y0, y1, y2, n, _, hl, e0, e1, e2⟩ := trod_struct3 Yba.underlying86 h
  rw [cells86] at hl
  obtain ⟨a, b, c, rfl⟩ := len3 hl
  simp only [cells9, cells84] at e0 e1 e2
  obtain ⟨s, hs, _⟩ := DataW.trod_string Yba.underlying9 e0
  obtain ⟨sa, la, ca, X, hb, h1⟩ := bytes_open e1
  obtain ⟨sb, lb, cb, Y, hc, h2⟩ := bytes_open e2
  refine ⟨s, sa, la, ca, X, sb, lb, cb, Y, ?_, h1, h2⟩
  simp at hs
  rw [hs, hb, hc]

/-- The argument of LawS4498BExact. -/
theorem ticks_open {ia : Option Addr} {len cap : Nat} {d : DataW H} {ps : List MemPlace} (h : DataW.Trod enc Yba.prog W base spare held 83 (.slice ia len cap) d ps) :
    len = 0 ∨ ∃ (I off : Nat) (nm : Nat → ByteArray) (sa sb : Nat → Option Addr) (la ca lb cb : Nat → Nat) (X Y : Nat → Nat → Nat), ia = some ⟨I, off, none⟩ ∧
      (∀ i, i < len → W.cell? ⟨I, off + i * 3, none⟩ = some (.string (nm i))) ∧ (∀ i, i < len → W.cell? ⟨I, off + i * 3 + 1, none⟩ = some (.slice (sa i) (la i) (ca i))) ∧ (∀ i, i < len → W.cell? ⟨I, off + i * 3 + 1 + 1, none⟩ = some (.slice (sb i) (lb i) (cb i))) ∧
      (∀ i, i < len → InB W (sa i) (la i) (X i)) ∧ (∀ i, i < len → InB W (sb i) (lb i) (Y i)) := by
  obtain ⟨fuel, hf⟩ := h
  rcases open_slice Yba.underlying83 hf with ⟨hcs, _⟩ | ⟨a, l, c, m, n, D, Pl, hcs, hb, hl, hm, hmm, hx, hi⟩
  · simp [Value.cells] at hcs
    exact Or.inl hcs.2.1
  · simp [Value.cells] at hcs
    obtain ⟨rfl, rfl, rfl⟩ := hcs
    by_cases h0 : len = 0
    · exact Or.inl h0
    right
    have hle : len ≤ m := by rw [hmm]; split <;> omega
    have hx : ∀ i, i < len → ∃ x : ByteArray × (Option Addr × Nat × Nat × (Nat → Nat)) × (Option Addr × Nat × Nat × (Nat → Nat)), W.cell? (a.add (i * 3)) = some (.string x.1) ∧ W.cell? ((a.add (i * 3)).add 1) = some (.slice x.2.1.1 x.2.1.2.1 x.2.1.2.2.1) ∧
        W.cell? ((a.add (i * 3)).add 2) = some (.slice x.2.2.1 x.2.2.2.1 x.2.2.2.2.1) ∧ InB W x.2.1.1 x.2.1.2.1 x.2.1.2.2.2 ∧ InB W x.2.2.1 x.2.2.2.1 x.2.2.2.2.2 := by
      intro i hlt
      obtain ⟨cs', e1, e2⟩ := hi i (by omega)
      obtain ⟨nm, sa, la, ca, X, sb, lb, cb, Y, rfl, g1, g2⟩ := tick_cell e2
      rw [cells86] at e1
      obtain ⟨_, _, e3⟩ := World.cells?_some e1
      refine ⟨(nm, (sa, la, ca, X), (sb, lb, cb, Y)), ?_, ?_, ?_, g1, g2⟩
      · simpa [Addr.add] using e3 0 (by omega)
      · simpa using e3 1 (by omega)
      · simpa using e3 2 (by omega)
    obtain ⟨b, off, spot⟩ := a
    have hspot : spot = none := by
      obtain ⟨x, e, _⟩ := hx 0 (by omega)
      simpa [Addr.add] using World.cell?_spot e
    subst hspot
    obtain ⟨f, hf⟩ := choose_lt hx
    refine ⟨b, off, fun i => (f i).1, fun i => (f i).2.1.1, fun i => (f i).2.2.1, fun i => (f i).2.1.2.1, fun i => (f i).2.1.2.2.1, fun i => (f i).2.2.2.1, fun i => (f i).2.2.2.2.1, fun i => (f i).2.1.2.2.2, fun i => (f i).2.2.2.2.2, rfl, fun j hj => ?_, fun j hj => ?_, fun j hj => ?_, fun j hj => ?_, fun j hj => ?_⟩
    · have e := (hf j hj).1; rw [addr_add] at e; exact e
    · have e := (hf j hj).2.1; rw [addr_add, addr_add] at e; exact e
    · have e := (hf j hj).2.2.1; rw [addr_add, addr_add] at e; exact e
    · exact (hf j hj).2.2.2.1
    · exact (hf j hj).2.2.2.2
end
end Go.Proofs.Ybulkcoda
