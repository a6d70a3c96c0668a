import Derived.Test.YbulkcodaS4
import Derived.Test.YbulkcodaE3
import Derived.ChangeOld
import Derived.Below
namespace Go.Proofs.Ybulkcoda
open Go.ChangeShapes Go.WideShapes Go.ChangeAt Go.RowKit Go.Deep

theorem cells107 : Yba.prog.cellsOf 107 = 2 := by kernel_rfl

section
variable {H : Type} {enc : TypeId × Value → H} {W : World} {base : Nat} {spare : Nat → Bool} {held : Bool}

theorem op_cell {fuel : Nat} {cs : List Value} {y : DataW H × List MemPlace} (h : DataW.trod enc Yba.prog W base spare held fuel 107 cs = some y) :
    ∃ a b : Nat, cs = [.int .u8 (a : Nat), .int .u8 (b : Nat)] ∧ a < 256 ∧ b < 256 := by
  obtain ⟨y0, y1, n, _, hl, e0, e1⟩ := trod_struct2 Yba.underlying107 h
  rw [cells107] at hl
  obtain ⟨a, b, rfl⟩ := len2 hl
  simp only [cells5] at e0 e1
  obtain ⟨x, hx, _, wx⟩ := DataW.trod_int Yba.underlying5 e0
  obtain ⟨z, hz, _, wz⟩ := DataW.trod_int Yba.underlying5 e1
  obtain ⟨x, rfl, lx⟩ := byte_of_wf wx
  obtain ⟨z, rfl, lz⟩ := byte_of_wf wz
  simp at hx hz
  exact ⟨x, z, by rw [hx, hz], lx, lz⟩

/-- The argument of LawS4498CScript. -/
theorem ops_open {ia : Option Addr} {len cap : Nat} {d : DataW H} {ps : List MemPlace} (h : DataW.Trod enc Yba.prog W base spare held 105 (.slice ia len cap) d ps) :
    len = 0 ∨ ∃ (I off : Nat) (P A : Nat → Nat), ia = some ⟨I, off, none⟩ ∧ (∀ i, i < len → W.cell? ⟨I, off + i * 2, none⟩ = some (.int .u8 (P i : Nat))) ∧ (∀ i, i < len → W.cell? ⟨I, off + i * 2 + 1, none⟩ = some (.int .u8 (A i : Nat))) ∧ (∀ i, i < len → P i < 256 ∧ A i < 256) := by
  obtain ⟨fuel, hf⟩ := h
  rcases open_slice Yba.underlying105 hf with ⟨hcs, _⟩ | ⟨a, l, c, m, n, D, Pl, hcs, hb, hl, hm, hmm, hx, hi⟩
  · simp [Value.cells] at hcs
    exact Or.inl hcs.2.1
  · simp [Value.cells] at hcs
    obtain ⟨rfl, rfl, rfl⟩ := hcs
    by_cases h0 : len = 0
    · exact Or.inl h0
    right
    have hle : len ≤ m := by rw [hmm]; split <;> omega
    have hx : ∀ i, i < len → ∃ x : Nat × Nat, W.cell? (a.add (i * 2)) = some (.int .u8 (x.1 : Nat)) ∧ W.cell? ((a.add (i * 2)).add 1) = some (.int .u8 (x.2 : Nat)) ∧ x.1 < 256 ∧ x.2 < 256 := by
      intro i hlt
      obtain ⟨cs', e1, e2⟩ := hi i (by omega)
      obtain ⟨x, z, rfl, g1, g2⟩ := op_cell e2
      rw [cells107] at e1
      obtain ⟨_, _, e3⟩ := World.cells?_some e1
      refine ⟨(x, z), ?_, ?_, g1, g2⟩
      · simpa [Addr.add] using e3 0 (by omega)
      · simpa using e3 1 (by omega)
    obtain ⟨b, off, spot⟩ := a
    have hspot : spot = none := by
      obtain ⟨x, e, _⟩ := hx 0 (by omega)
      simpa [Addr.add] using World.cell?_spot e
    subst hspot
    obtain ⟨f, hf⟩ := choose_lt hx
    refine ⟨b, off, fun i => (f i).1, fun i => (f i).2, rfl, fun j hj => ?_, fun j hj => ?_, fun j hj => (hf j hj).2.2⟩
    · have e := (hf j hj).1; rw [addr_add] at e; exact e
    · have e := (hf j hj).2.1; rw [addr_add, addr_add] at e; exact e
end

namespace lawS4498CScript

theorem own : ownKnob Yba.prog.godebug = none := by kernel_rfl
theorem laidOut : laidOutB Yba.prog = true := by kernel_rfl

set_option maxRecDepth 100000 in
set_option maxHeartbeats 400000 in
theorem big (ia : Option Addr) (n c : Nat) (w : World) (hn : 1024 < n) :
    Calls Yba.prog 7 #[.slice ia n c] w fun e w' => e = .returned (.bool true) ∧ Below w.heap.size w w' := by
  have hd : decide ((1024 : Int) < (n : Int)) = true := by simp; omega
  go_enter Yba.func7, Yba.ntmps7
  go_wp2
  go_ret
  exact ⟨rfl, Below.refl _ _⟩

set_option maxRecDepth 100000 in
set_option maxHeartbeats 400000 in
theorem zero (ia : Option Addr) (c : Nat) (w : World) :
    Calls Yba.prog 7 #[.slice ia 0 c] w fun e w' => e = .returned (.bool true) ∧ Below w.heap.size w w' := by
  have hbx : (w.alloc (.cells (oC (.slice none 0 0) 0 0) 100)).heap[w.heap.size]? = some (.cells (oC (.slice none 0 0) 0 0) 100) := (MapKept.heap_alloc w _).1
  go_enter Yba.func7, Yba.ntmps7
  go_wp2
  refine wp_loop_rounds 1 ?_
  rw [rounds_succ]
  go_wp2_with fail
  refine (kept_nil w.heap.size 0 0 0 0 _ hbx).mono ?_
  rintro e w2 ⟨rfl, hk2⟩
  have hb2 : Below w.heap.size w w2 := ((Below.refl _ w).alloc (Nat.le_refl _) _).trans (hk2.below (by simp) (by simp))
  clear hbx hk2
  go_wp2
  refine wp_loop_rounds 1 ?_
  rw [rounds_succ]
  go_wp2
  go_ret
  exact ⟨rfl, hb2⟩

set_option maxRecDepth 100000 in
theorem lifted (os : Os) (started : os.Started) (H : Type) (enc : TypeId × Value → H) :
    ReturnsInHanded {} Yba.checked os 7 .any (Rows.lawS4498CScriptSpec.pre6 enc Yba.prog Yba.f7 Rows.lawS4498CScriptRow.domain false) (Rows.lawS4498CScriptSpec.post enc Yba.prog Yba.f7 false true false false) := by
  refine returnsInHanded_of_change (C := Yba.checked) own started (by kernel_rfl) Yba.func7
    (ChangeSpec.witness6 (enc := enc) (C := Yba.checked) false ⟨#[], #[.slice none 0 0], []⟩ 8 (by kernel_rfl) (by kernel_rfl) (by kernel_rfl) (by kernel_rfl)) ?_
  intro W base args ds gs before hval0 hW hcnd _
  have hval : ∀ (j : Nat) t v, Yba.f7.params[j]? = some t → args[j]? = some v → Value.okWide Yba.prog W .any base t v := hval0
  have hW' := hW
  obtain ⟨p, q, hA0, hV, rfl, hfz, hnd⟩ := hW
  have hA : DataW.TrodAll enc Yba.prog W 0 (fun _ => true) true Yba.f7.params.toList args.toList ds p := hA0
  rw [Yba.params7] at hA hval
  obtain ⟨v0, vs0, d0, ds0, p0, q0, hargs, rfl, rfl, h0, r0⟩ := trodAll_cons hA
  obtain ⟨rfl, rfl, rfl⟩ := trodAll_nil r0
  obtain rfl : args = #[v0] := by cases args; simp_all
  obtain ⟨rfl, rfl⟩ := trodVars_none hV
  obtain ⟨a0, len0, cap0, rfl⟩ := okWide_slice Yba.underlying105 (hval 0 105 v0 rfl rfl)
  have k0 := h0
  have lt0 : ∀ x ∈ p0, x.block < W.heap.size := by obtain ⟨m, hm⟩ := k0; exact DataW.trod_lt m _ _ _ hm
  clear hA0 hval0
  have walk : Calls Yba.prog 7 #[.slice a0 len0 cap0] W fun e w' => e = .returned (.bool true) ∧ Below W.heap.size W w' := by
    by_cases hbig : 1024 < len0
    · exact big a0 len0 cap0 W hbig
    rcases ops_open h0 with rfl | ⟨I, off, P, A, rfl, g0, g1, g2⟩
    · exact zero a0 cap0 W
    · exact cscript I off len0 cap0 P A W (by omega) g0 g1 g2
  refine walk.mono fun e W' ⟨he, bel⟩ => ?_
  subst he
  exact ⟨_, rfl, _, _, _, [], _, [], hW', trodAll_mk1 (shut_bool Yba.underlying4 _), (trodAll_cons_mk (Below.trod laidOut (by kernel_rfl) (of_decide_eq_true (by kernel_rfl)) k0 bel lt0) trodAll_mk0), rfl, bel.frame _, fun h => by cases h⟩

theorem over : Rows.lawS4498CScriptRow.holds Yba.pinned (OpenSpec.ofChange Rows.lawS4498CScriptSpec) :=
  OpenClaim.holds_of_wide 7 Yba.f7 rfl rfl rfl rfl rfl rfl rfl ⟨rfl, rfl, rfl, rfl, rfl⟩ rfl rfl rfl rfl rfl (by kernel_rfl) Yba.func7 (by kernel_rfl)
    (of_decide_eq_true (by kernel_rfl)) (by unfold Func.isWrapper; first | (rw [if_pos (by decide +kernel)]; kernel_rfl) | (rw [if_neg (by decide +kernel)]; exact ⟨rfl, rfl⟩))
    (fun os started H enc _ => lifted os started H enc)

theorem proved : Rows.LawS4498CScriptSaid :=
  over
end lawS4498CScript
end Go.Proofs.Ybulkcoda
