import Derived.Test.YbulkcodaZIF
import Derived.Test.YbulkcodaZIT
import Derived.Test.YbulkcodaZFLT
import Derived.Test.YbulkcodaZFLF
import Derived.Test.YbulkcodaZFMT
import Derived.Test.YbulkcodaZFMF
import Derived.Test.YbulkcodaZTLT
import Derived.Test.YbulkcodaZTLF
import Derived.Test.YbulkcodaZTMT
import Derived.Test.YbulkcodaZTMF
import Derived.Test.YbulkcodaZ9
import Derived.Test.YbulkcodaE3
import Derived.ChangeOld
import Derived.Below
namespace Go.Proofs.Ybulkcoda
open Go.ChangeShapes Go.WideShapes Go.ChangeAt Go.RowKit Go.Deep

section
variable {H : Type} {enc : TypeId × Value → H} {W : World} {base : Nat} {spare : Nat → Bool} {held : Bool}
/-- The argument 'ds' of LawS4498AEnd. -/
theorem floats_open {ia : Option Addr} {len cap : Nat} {d : DataW H} {ps : List MemPlace} (h : DataW.Trod enc Yba.prog W base spare held 23 (.slice ia len cap) d ps) :
    len = 0 ∨ ∃ (I off : Nat) (E : Nat → Nat), ia = some ⟨I, off, none⟩ ∧ ∀ i, i < len → W.cell? ⟨I, off + i, none⟩ = some (.float .f64 (E i)) := by
  obtain ⟨fuel, hf⟩ := h
  rcases open_slice Yba.underlying23 hf with ⟨hcs, _⟩ | ⟨a, l, c, m, n, D, Pl, hcs, hb, hl, hm, hmm, hx, hi⟩
  · simp [Value.cells] at hcs
    exact Or.inl hcs.2.1
  · simp [Value.cells] at hcs
    obtain ⟨rfl, rfl, rfl⟩ := hcs
    by_cases h0 : len = 0
    · exact Or.inl h0
    right
    have hle : len ≤ m := by rw [hmm]; split <;> omega
    have hx : ∀ i, i < len → ∃ x : Nat, W.cell? (a.add i) = some (.float .f64 x) := by
      intro i hlt
      obtain ⟨cs', e1, e2⟩ := hi i (by omega)
      rw [cells22] at e1
      obtain ⟨e4, _, e3⟩ := World.cells?_some e1
      obtain ⟨y, rfl⟩ : ∃ y, cs' = [y] := by
        match cs', e4 with
        | [y], _ => exact ⟨y, rfl⟩
      obtain ⟨x, rfl⟩ := float_cell e2
      exact ⟨x, by simpa [Addr.add] using e3 0 (by omega)⟩
    obtain ⟨b, off, spot⟩ := a
    have hspot : spot = none := by
      obtain ⟨x, e⟩ := hx 0 (by omega)
      simpa [Addr.add] using World.cell?_spot e
    subst hspot
    obtain ⟨f, hf⟩ := choose_lt hx
    exact ⟨b, off, f, rfl, fun j hj => by have e := hf j hj; rw [addr_add] at e; exact e⟩
end

theorem aend_any (I off n c : Nat) (E : Nat → Nat) (now busy hd : Nat) (he : Bool) (w : World) (hn0 : 0 < n) (hn : n ≤ 1024) (hh : hd < 256) (hE : ∀ i, i < n → w.cell? ⟨I, off + i, none⟩ = some (.float .f64 (E i))) :
    Calls Yba.prog 3 #[.float .f64 now, .float .f64 busy, .slice (some ⟨I, off, none⟩) n c, .int .u8 (hd : Nat), .bool he] w fun e w' => e = .returned (.bool true) ∧ Below w.heap.size w w' := by
  by_cases hi : hd % (n + 1) = n
  · cases he
    · exact aend_idle_false I off n c E now busy hd w hn0 hn hh hi hE
    · exact aend_idle_true I off n c E now busy hd w hn0 hn hh hi hE
  · have hlt := Nat.mod_lt hd (show 0 < n + 1 by omega)
    have hi' : hd % (n + 1) < n := by omega
    by_cases hla : hd % (n + 1) + 1 = n
    · cases hbf : bef (floatBits .add .f64 now (E (hd % (n + 1))))
      · cases he
        · exact aend_false_last_false I off n c E now busy hd w hn0 hn hh hi' hla hbf hE
        · exact aend_true_last_false I off n c E now busy hd w hn0 hn hh hi' hla hbf hE
      · cases he
        · exact aend_false_last_true I off n c E now busy hd w hn0 hn hh hi' hla hbf hE
        · exact aend_true_last_true I off n c E now busy hd w hn0 hn hh hi' hla hbf hE
    · cases hbf : bef (floatBits .add .f64 now (E (hd % (n + 1))))
      · cases he
        · exact aend_false_more_false I off n c E now busy hd w hn0 hn hh hi' hla hbf hE
        · exact aend_true_more_false I off n c E now busy hd w hn0 hn hh hi' hla hbf hE
      · cases he
        · exact aend_false_more_true I off n c E now busy hd w hn0 hn hh hi' hla hbf hE
        · exact aend_true_more_true I off n c E now busy hd w hn0 hn hh hi' hla hbf hE

namespace lawS4498AEnd

theorem own : ownKnob Yba.prog.godebug = none := by kernel_rfl
theorem laidOut : laidOutB Yba.prog = true := by kernel_rfl

set_option maxRecDepth 100000 in
set_option maxHeartbeats 400000 in
theorem big (ia : Option Addr) (now busy n c : Nat) (hd : Int) (he : Bool) (w : World) (hn : 1024 < n) :
    Calls Yba.prog 3 #[.float .f64 now, .float .f64 busy, .slice ia n c, .int .u8 hd, .bool he] w fun e w' => e = .returned (.bool true) ∧ Below w.heap.size w w' := by
  have hd : decide ((1024 : Int) < (n : Int)) = true := by simp; omega
  go_enter Yba.func3, Yba.ntmps3
  go_wp2
  go_ret
  exact ⟨rfl, Below.refl _ _⟩

set_option maxRecDepth 100000 in
theorem lifted (os : Os) (started : os.Started) (H : Type) (enc : TypeId × Value → H) :
    ReturnsInHanded {} Yba.checked os 3 .any (Rows.lawS4498AEndSpec.pre6 enc Yba.prog Yba.f3 Rows.lawS4498AEndRow.domain false) (Rows.lawS4498AEndSpec.post enc Yba.prog Yba.f3 false true false false) := by
  refine returnsInHanded_of_change (C := Yba.checked) own started (by kernel_rfl) Yba.func3
    (ChangeSpec.witness6 (enc := enc) (C := Yba.checked) false ⟨#[], #[.float .f64 0, .float .f64 0, .slice none 0 0, .int .u8 0, .bool false], []⟩ 8 (by kernel_rfl) (by kernel_rfl) (by kernel_rfl) (by kernel_rfl)) ?_
  intro W base args ds gs before hval0 hW hcnd _
  have hval : ∀ (j : Nat) t v, Yba.f3.params[j]? = some t → args[j]? = some v → Value.okWide Yba.prog W .any base t v := hval0
  have hW' := hW
  obtain ⟨p, q, hA0, hV, rfl, hfz, hnd⟩ := hW
  have hA : DataW.TrodAll enc Yba.prog W 0 (fun _ => true) true Yba.f3.params.toList args.toList ds p := hA0
  rw [Yba.params3] at hA hval
  obtain ⟨v0, vs0, d0, ds0, p0, q0, hargs, rfl, rfl, h0, r0⟩ := trodAll_cons hA
  obtain ⟨v1, vs1, d1, ds1, p1, q1, rfl, rfl, rfl, h1, r1⟩ := trodAll_cons r0
  obtain ⟨v2, vs2, d2, ds2, p2, q2, rfl, rfl, rfl, h2, r2⟩ := trodAll_cons r1
  obtain ⟨v3, vs3, d3, ds3, p3, q3, rfl, rfl, rfl, h3, r3⟩ := trodAll_cons r2
  obtain ⟨v4, vs4, d4, ds4, p4, q4, rfl, rfl, rfl, h4, r4⟩ := trodAll_cons r3
  obtain ⟨rfl, rfl, rfl⟩ := trodAll_nil r4
  obtain rfl : args = #[v0, v1, v2, v3, v4] := by cases args; simp_all
  obtain ⟨rfl, rfl⟩ := trodVars_none hV
  have k0 := h0
  have k1 := h1
  have k2 := h2
  have k3 := h3
  have k4 := h4
  have lt0 : ∀ x ∈ p0, x.block < W.heap.size := by obtain ⟨m, hm⟩ := k0; exact DataW.trod_lt m _ _ _ hm
  have lt1 : ∀ x ∈ p1, x.block < W.heap.size := by obtain ⟨m, hm⟩ := k1; exact DataW.trod_lt m _ _ _ hm
  have lt2 : ∀ x ∈ p2, x.block < W.heap.size := by obtain ⟨m, hm⟩ := k2; exact DataW.trod_lt m _ _ _ hm
  have lt3 : ∀ x ∈ p3, x.block < W.heap.size := by obtain ⟨m, hm⟩ := k3; exact DataW.trod_lt m _ _ _ hm
  have lt4 : ∀ x ∈ p4, x.block < W.heap.size := by obtain ⟨m, hm⟩ := k4; exact DataW.trod_lt m _ _ _ hm
  obtain ⟨now, rfl⟩ := okWide_float Yba.underlying22 (hval 0 22 v0 rfl rfl)
  obtain ⟨busy, rfl⟩ := okWide_float Yba.underlying22 (hval 1 22 v1 rfl rfl)
  obtain ⟨a2, len2, cap2, rfl⟩ := okWide_slice Yba.underlying23 (hval 2 23 v2 rfl rfl)
  obtain ⟨hd, rfl, _, _, hwf⟩ := open_int Yba.underlying5 (hval 3 5 v3 rfl rfl) h3
  obtain ⟨he, rfl⟩ := okWide_bool Yba.underlying4 (hval 4 4 v4 rfl rfl)
  obtain ⟨hd, rfl, hlt⟩ := byte_of_wf hwf
  clear hA0 hval0
  have walk : Calls Yba.prog 3 #[.float .f64 now, .float .f64 busy, .slice a2 len2 cap2, .int .u8 (hd : Nat), .bool he] W fun e w' => e = .returned (.bool true) ∧ Below W.heap.size W w' := by
    by_cases hbig : 1024 < len2
    · exact big a2 now busy len2 cap2 _ he W hbig
    rcases floats_open h2 with rfl | ⟨I, off, E, rfl, g0⟩
    · exact aend_zero a2 cap2 now busy hd he W
    · by_cases h0' : len2 = 0
      · subst h0'
        exact aend_zero _ cap2 now busy hd he W
      · exact aend_any I off len2 cap2 E now busy hd he W (by omega) (by omega) hlt g0
  refine walk.mono fun e W' ⟨he', bel⟩ => ?_
  subst he'
  exact ⟨_, rfl, _, _, _, [], _, [], hW', trodAll_mk1 (shut_bool Yba.underlying4 _),
    (trodAll_cons_mk (Below.trod laidOut (by kernel_rfl) (of_decide_eq_true (by kernel_rfl)) k0 bel lt0) (trodAll_cons_mk (Below.trod laidOut (by kernel_rfl) (of_decide_eq_true (by kernel_rfl)) k1 bel lt1)
      (trodAll_cons_mk (Below.trod laidOut (by kernel_rfl) (of_decide_eq_true (by kernel_rfl)) k2 bel lt2) (trodAll_cons_mk (Below.trod laidOut (by kernel_rfl) (of_decide_eq_true (by kernel_rfl)) k3 bel lt3)
        (trodAll_cons_mk (Below.trod laidOut (by kernel_rfl) (of_decide_eq_true (by kernel_rfl)) k4 bel lt4) trodAll_mk0))))), rfl, bel.frame _, fun h => by cases h⟩

theorem over : Rows.lawS4498AEndRow.holds Yba.pinned (OpenSpec.ofChange Rows.lawS4498AEndSpec) :=
  OpenClaim.holds_of_wide 3 Yba.f3 rfl rfl rfl rfl rfl rfl rfl ⟨rfl, rfl, rfl, rfl, rfl⟩ rfl rfl rfl rfl rfl (by kernel_rfl) Yba.func3 (by kernel_rfl)
    (of_decide_eq_true (by kernel_rfl)) (by unfold Func.isWrapper; first | (rw [if_pos (by decide +kernel)]; kernel_rfl) | (rw [if_neg (by decide +kernel)]; exact ⟨rfl, rfl⟩))
    (fun os started H enc _ => lifted os started H enc)

theorem proved : Rows.LawS4498AEndSaid :=
  over
end lawS4498AEnd
end Go.Proofs.Ybulkcoda
