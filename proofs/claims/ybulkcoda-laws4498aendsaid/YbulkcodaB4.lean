import Derived.Test.YbulkcodaB3
import Derived.ProofKit
import Derived.OpenShut
import Derived.Deep.Slices
import Derived.Deep.Strs
namespace Go.Proofs.Ybulkcoda
open Go.ChangeShapes Go.WideShapes Go.ChangeAt Go.RowKit Go.Deep

theorem cells22 : Yba.prog.cellsOf 22 = 1 := by kernel_rfl
theorem cells9 : Yba.prog.cellsOf 9 = 1 := by kernel_rfl
theorem cells66 : Yba.prog.cellsOf 66 = 1 := by kernel_rfl
theorem cells68 : Yba.prog.cellsOf 68 = 2 := by kernel_rfl
theorem cells72 : Yba.prog.cellsOf 72 = 3 := by kernel_rfl

theorem len2 {α : Type} {l : List α} (h : l.length = 2) : ∃ a b, l = [a, b] := by
  match l, h with
  | [a, b], _ => exact ⟨a, b, rfl⟩
theorem len3 {α : Type} {l : List α} (h : l.length = 3) : ∃ a b c, l = [a, b, c] := by
  match l, h with
  | [a, b, c], _ => exact ⟨a, b, c, rfl⟩

section
variable {H : Type} {enc : TypeId × Value → H} {W : World} {base : Nat} {spare : Nat → Bool} {held : Bool}

theorem float_cell {fuel : Nat} {v : Value} {y : DataW H × List MemPlace} (h : DataW.trod enc Yba.prog W base spare held fuel 22 [v] = some y) : ∃ x : Nat, v = .float .f64 x := by
  cases fuel with
  | zero => simp [DataW.trod] at h
  | succ n =>
    simp only [DataW.trod, Yba.underlying22] at h
    cases v with
    | float k x =>
      cases k with
      | f64 => exact ⟨x, rfl⟩
      | f32 => simp at h
    | _ => simp at h

/-- The cells of a struct of three floats. -/
theorem stream_cell {fuel : Nat} {cs : List Value} {y : DataW H × List MemPlace} (h : DataW.trod enc Yba.prog W base spare held fuel 72 cs = some y) : ∃ r m q : Nat, cs = [.float .f64 r, .float .f64 m, .float .f64 q] := by
  obtain ⟨y0, y1, y2, n, _, hl, e0, e1, e2⟩ := trod_struct3 Yba.underlying72 h
  rw [cells72] at hl
  obtain ⟨a, b, c, rfl⟩ := len3 hl
  simp only [cells22] at e0 e1 e2
  obtain ⟨r, rfl⟩ := float_cell e0
  obtain ⟨m, rfl⟩ := float_cell e1
  obtain ⟨q, rfl⟩ := float_cell e2
  exact ⟨r, m, q, rfl⟩

theorem streams_open {fuel : Nat} {v : Value} {y : DataW H × List MemPlace} (h : DataW.trod enc Yba.prog W base spare held fuel 66 [v] = some y) :
    ∃ (sa : Option Addr) (len cap : Nat) (R M Q : Nat → Nat), v = .slice sa len cap ∧ InS W sa len R M Q ∧ (sa = none → len = 0) := by
  rcases open_slice Yba.underlying66 h with ⟨hcs, _⟩ | ⟨a, len, cap, m, n, D, Pl, hcs, hb, hl, hm, hmm, hx, hi⟩
  · simp at hcs
    exact ⟨none, 0, 0, fun _ => 0, fun _ => 0, fun _ => 0, hcs, Or.inl rfl, fun _ => rfl⟩
  · simp at hcs
    subst hcs
    by_cases h0 : len = 0
    · exact ⟨some a, len, cap, fun _ => 0, fun _ => 0, fun _ => 0, rfl, Or.inl h0, fun h => by cases h⟩
    have hle : len ≤ m := by rw [hmm]; split <;> omega
    have hx : ∀ i, i < len → ∃ x : Nat × Nat × Nat, W.cell? (a.add (i * 3)) = some (.float .f64 x.1) ∧ W.cell? ((a.add (i * 3)).add 1) = some (.float .f64 x.2.1) ∧ W.cell? ((a.add (i * 3)).add 2) = some (.float .f64 x.2.2) := by
      intro i hlt
      obtain ⟨cs', e1, e2⟩ := hi i (by omega)
      obtain ⟨r, mm, q, rfl⟩ := stream_cell e2
      rw [cells72] at e1
      obtain ⟨_, _, e3⟩ := World.cells?_some e1
      refine ⟨(r, mm, q), ?_, ?_, ?_⟩
      · simpa [Addr.add] using e3 0 (by omega)
      · simpa using e3 1 (by omega)
      · simpa using e3 2 (by omega)
    obtain ⟨b, off, spot⟩ := a
    have hspot : spot = none := by
      obtain ⟨x, e, _⟩ := hx 0 (by omega)
      simpa [Addr.add] using World.cell?_spot e
    subst hspot
    obtain ⟨f, hf⟩ := choose_lt hx
    refine ⟨some ⟨b, off, none⟩, len, cap, fun i => (f i).1, fun i => (f i).2.1, fun i => (f i).2.2, rfl, Or.inr ⟨b, off, rfl, fun j hj => ?_⟩, fun h => by cases h⟩
    obtain ⟨e0, e1, e2⟩ := hf j hj
    rw [addr_add] at e0
    rw [addr_add, addr_add] at e1 e2
    exact ⟨e0, e1, e2⟩

theorem server_cell {fuel : Nat} {cs : List Value} {y : DataW H × List MemPlace} (h : DataW.trod enc Yba.prog W base spare held fuel 68 cs = some y) :
    ∃ (nm : ByteArray) (sa : Option Addr) (len cap : Nat) (R M Q : Nat → Nat), cs = [.string nm, .slice sa len cap] ∧ InS W sa len R M Q ∧ (sa = none → len = 0) := by
  obtain ⟨y0, y1, n, _, hl, e0, e1⟩ := trod_struct2 Yba.underlying68 h
  rw [cells68] at hl
  obtain ⟨a, b, rfl⟩ := len2 hl
  simp only [cells9, cells66] at e0 e1
  obtain ⟨s, hs, _⟩ := DataW.trod_string Yba.underlying9 e0
  obtain ⟨sa, len, cap, R, M, Q, hb, h1, h2⟩ := streams_open e1
  refine ⟨s, sa, len, cap, R, M, Q, ?_, h1, h2⟩
  simp at hs
  rw [hs, hb]

/-- The argument of LawS4498BFirst. -/
theorem servers_open {ia : Option Addr} {len cap : Nat} {d : DataW H} {ps : List MemPlace} (h : DataW.Trod enc Yba.prog W base spare held 65 (.slice ia len cap) d ps) :
    len = 0 ∨ ∃ (I off : Nat) (nm : Nat → ByteArray) (sa : Nat → Option Addr) (sl sc : Nat → Nat) (R M Q : Nat → Nat → Nat), ia = some ⟨I, off, none⟩ ∧
      (∀ i, i < len → W.cell? ⟨I, off + i * 2, none⟩ = some (.string (nm i))) ∧ (∀ i, i < len → W.cell? ⟨I, off + i * 2 + 1, none⟩ = some (.slice (sa i) (sl i) (sc i))) ∧
      (∀ i, i < len → InS W (sa i) (sl i) (R i) (M i) (Q i)) ∧ (∀ i, i < len → sa i = none → sl i = 0) := by
  obtain ⟨fuel, hf⟩ := h
  rcases open_slice Yba.underlying65 hf with ⟨hcs, _⟩ | ⟨a, l, c, m, n, D, Pl, hcs, hb, hl, hm, hmm, hx, hi⟩
  · simp [Value.cells] at hcs
    exact Or.inl hcs.2.1
  · simp [Value.cells] at hcs
    obtain ⟨rfl, rfl, rfl⟩ := hcs
    by_cases h0 : len = 0
    · exact Or.inl h0
    right
    have hle : len ≤ m := by rw [hmm]; split <;> omega
    have hx : ∀ i, i < len → ∃ x : ByteArray × Option Addr × Nat × Nat × (Nat → Nat) × (Nat → Nat) × (Nat → Nat), W.cell? (a.add (i * 2)) = some (.string x.1) ∧ W.cell? ((a.add (i * 2)).add 1) = some (.slice x.2.1 x.2.2.1 x.2.2.2.1) ∧
        InS W x.2.1 x.2.2.1 x.2.2.2.2.1 x.2.2.2.2.2.1 x.2.2.2.2.2.2 ∧ (x.2.1 = none → x.2.2.1 = 0) := by
      intro i hlt
      obtain ⟨cs', e1, e2⟩ := hi i (by omega)
      obtain ⟨nm, sa, ln, cp, R, M, Q, rfl, g1, g2⟩ := server_cell e2
      rw [cells68] at e1
      obtain ⟨_, _, e3⟩ := World.cells?_some e1
      refine ⟨(nm, sa, ln, cp, R, M, Q), ?_, ?_, g1, g2⟩
      · simpa [Addr.add] using e3 0 (by omega)
      · simpa using e3 1 (by omega)
    obtain ⟨b, off, spot⟩ := a
    have hspot : spot = none := by
      obtain ⟨x, e, _⟩ := hx 0 (by omega)
      simpa [Addr.add] using World.cell?_spot e
    subst hspot
    obtain ⟨f, hf⟩ := choose_lt hx
    refine ⟨b, off, fun i => (f i).1, fun i => (f i).2.1, fun i => (f i).2.2.1, fun i => (f i).2.2.2.1, fun i => (f i).2.2.2.2.1, fun i => (f i).2.2.2.2.2.1, fun i => (f i).2.2.2.2.2.2, rfl, fun j hj => ?_, fun j hj => ?_, fun j hj => ?_, fun j hj => ?_⟩
    · have e := (hf j hj).1; rw [addr_add] at e; exact e
    · have e := (hf j hj).2.1; rw [addr_add, addr_add] at e; exact e
    · exact (hf j hj).2.2.1
    · exact (hf j hj).2.2.2
end
end Go.Proofs.Ybulkcoda
