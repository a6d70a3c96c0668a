import Derived.Test.YbulkcodaE3
import Derived.ChangeOld
import Derived.Below
namespace Go.Proofs.Ybulkcoda.lawS4498BExact
open Go.ChangeShapes Go.WideShapes Go.ChangeAt Go.RowKit

theorem own : ownKnob Yba.prog.godebug = none := by kernel_rfl
theorem laidOut : laidOutB Yba.prog = true := by kernel_rfl

set_option maxRecDepth 100000 in
set_option maxHeartbeats 400000 in
theorem big (ia : Option Addr) (n c : Nat) (w : World) (hn : 1024 < n) :
    Calls Yba.prog 5 #[.slice ia n c] w fun e w' => e = .returned (.bool true) ∧ Below w.heap.size w w' := by
  have hd : decide ((1024 : Int) < (n : Int)) = true := by simp; omega
  go_enter Yba.func5, Yba.ntmps5
  go_wp2
  go_ret
  exact ⟨rfl, Below.refl _ _⟩

set_option maxRecDepth 100000 in
set_option maxHeartbeats 400000 in
theorem zero (ia : Option Addr) (c : Nat) (w : World) :
    Calls Yba.prog 5 #[.slice ia 0 c] w fun e w' => e = .returned (.bool true) ∧ Below w.heap.size w w' := by
  have hmk : ∀ w, (Instr.makeSlice 69 (.int .i64 0) (.int .i64 0)).run Yba.prog w = .ok (.slice (some ⟨w.heap.size, 0, none⟩) 0 0) (w.alloc (.cells (mkB 0) 76)) := fun w => by simpa using make69 0 (by omega) w
  have hmi : ∀ w, (Instr.makeSlice 24 (.int .i64 0) (.int .i64 0)).run Yba.prog w = .ok (.slice (some ⟨w.heap.size, 0, none⟩) 0 0) (w.alloc (.cells (mkI 0) 3)) := fun w => by simpa using make24 0 (by omega) w
  go_enter Yba.func5, Yba.ntmps5
  go_wp2
  refine wp_loop_rounds 1 ?_
  rw [rounds_succ]
  go_wp2
  refine wp_loop_rounds 1 ?_
  rw [rounds_succ]
  go_wp2_with fail
  refine (saturated_any _ 0 0 (fun _ => ⟨#[]⟩) (fun _ => none) (fun _ => 0) (fun _ => 0) (fun _ _ => 0) (fun _ _ => 0) _ (by omega) (fun i hi => absurd hi (Nat.not_lt_zero i)) (fun i hi => absurd hi (Nat.not_lt_zero i)) (fun i hi => absurd hi (Nat.not_lt_zero i)) (fun i hi => absurd hi (Nat.not_lt_zero i))).mono ?_
  rintro e w2 ⟨hres, hk2⟩
  have hb2 : Below w.heap.size w w2 := (((Below.refl _ w).alloc (Nat.le_refl _) _).alloc (by simp) _).trans (hk2.below (by simp; omega) (by simp))
  rcases hres with ⟨i0, E, u, hi0, _⟩ | ⟨hall, rfl⟩
  · exact absurd hi0 (Nat.not_lt_zero i0)
  · clear hk2 hall
    go_wp2
    refine wp_loop_rounds 1 ?_
    rw [rounds_succ]
    go_wp2
    go_ret
    exact ⟨rfl, hb2⟩

set_option maxRecDepth 100000 in
theorem lifted (os : Os) (started : os.Started) (H : Type) (enc : TypeId × Value → H) :
    ReturnsInHanded {} Yba.checked os 5 .any (Rows.lawS4498BExactSpec.pre6 enc Yba.prog Yba.f5 Rows.lawS4498BExactRow.domain false) (Rows.lawS4498BExactSpec.post enc Yba.prog Yba.f5 false true false false) := by
  refine returnsInHanded_of_change (C := Yba.checked) own started (by kernel_rfl) Yba.func5
    (ChangeSpec.witness6 (enc := enc) (C := Yba.checked) false ⟨#[], #[.slice none 0 0], []⟩ 8 (by kernel_rfl) (by kernel_rfl) (by kernel_rfl) (by kernel_rfl)) ?_
  intro W base args ds gs before hval0 hW hcnd _
  have hval : ∀ (j : Nat) t v, Yba.f5.params[j]? = some t → args[j]? = some v → Value.okWide Yba.prog W .any base t v := hval0
  have hW' := hW
  obtain ⟨p, q, hA0, hV, rfl, hfz, hnd⟩ := hW
  have hA : DataW.TrodAll enc Yba.prog W 0 (fun _ => true) true Yba.f5.params.toList args.toList ds p := hA0
  rw [Yba.params5] at hA hval
  obtain ⟨v0, vs0, d0, ds0, p0, q0, hargs, rfl, rfl, h0, r0⟩ := trodAll_cons hA
  obtain ⟨rfl, rfl, rfl⟩ := trodAll_nil r0
  obtain rfl : args = #[v0] := by cases args; simp_all
  obtain ⟨rfl, rfl⟩ := trodVars_none hV
  obtain ⟨a0, len0, cap0, rfl⟩ := okWide_slice Yba.underlying83 (hval 0 83 v0 rfl rfl)
  have k0 := h0
  have lt0 : ∀ x ∈ p0, x.block < W.heap.size := by obtain ⟨m, hm⟩ := k0; exact DataW.trod_lt m _ _ _ hm
  clear hA0 hval0
  have walk : Calls Yba.prog 5 #[.slice a0 len0 cap0] W fun e w' => e = .returned (.bool true) ∧ Below W.heap.size W w' := by
    by_cases hbig : 1024 < len0
    · exact big a0 len0 cap0 W hbig
    rcases ticks_open h0 with rfl | ⟨I, off, nm, sa, sb, la, ca, lb, cb, X, Y, rfl, g0, g1, g2, g3, g4⟩
    · exact zero a0 cap0 W
    · exact bexact I off len0 cap0 nm sa sb la ca lb cb X Y W (by omega) g0 g1 g2 g3 g4
  refine walk.mono fun e W' ⟨he, bel⟩ => ?_
  subst he
  exact ⟨_, rfl, _, _, _, [], _, [], hW', trodAll_mk1 (shut_bool Yba.underlying4 _), (trodAll_cons_mk (Below.trod laidOut (by kernel_rfl) (of_decide_eq_true (by kernel_rfl)) k0 bel lt0) trodAll_mk0), rfl, bel.frame _, fun h => by cases h⟩

theorem over : Rows.lawS4498BExactRow.holds Yba.pinned (OpenSpec.ofChange Rows.lawS4498BExactSpec) :=
  OpenClaim.holds_of_wide 5 Yba.f5 rfl rfl rfl rfl rfl rfl rfl ⟨rfl, rfl, rfl, rfl, rfl⟩ rfl rfl rfl rfl rfl (by kernel_rfl) Yba.func5 (by kernel_rfl)
    (of_decide_eq_true (by kernel_rfl)) (by unfold Func.isWrapper; first | (rw [if_pos (by decide +kernel)]; kernel_rfl) | (rw [if_neg (by decide +kernel)]; exact ⟨rfl, rfl⟩))
    (fun os started H enc _ => lifted os started H enc)

theorem proved : Rows.LawS4498BExactSaid :=
  over
end Go.Proofs.Ybulkcoda.lawS4498BExact
