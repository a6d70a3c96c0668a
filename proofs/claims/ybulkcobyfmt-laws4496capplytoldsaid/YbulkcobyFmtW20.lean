import Derived.Test.YbulkcobyFmtW19
import Derived.Test.YbulkcobyFmtCards
import Derived.ProofKit
import Derived.OpenShut
import Derived.Stop.JoinedAt
import Derived.Stop.JoinedTold
import Derived.SevenToldRow
import Derived.Deep.Slices
import Derived.Lay
namespace Go.Proofs.YbulkcobyFmt.lawS4496CApply
open Go.ChangeShapes Go.WideShapes Go.ChangeAt Go.RowKit
open Go.Extern.Stop Go.Stop Go.Extern

theorem own : ownKnob Ybaf.prog.godebug = none := by kernel_rfl
theorem laidOut : laidOutB Ybaf.prog = true := by kernel_rfl
theorem mayEnter : Ybaf.checked.prog.mayEnter = true := by kernel_rfl
theorem noInit : Ybaf.checked.prog.inits.idxOf? 5 = none := by kernel_rfl
theorem readable38 : Ybaf.prog.readableRec 38 = true := by kernel_rfl
theorem row38 : 38 < Ybaf.prog.types.size := of_decide_eq_true (by kernel_rfl)
theorem cells25 : Ybaf.prog.cellsOf 25 = 1 := by kernel_rfl

/-- The numbers of a slice of float64 that came in. -/
theorem floats_open {H : Type} {enc : TypeId × Value → H} {W : World} {va : Option Addr} {len cap : Nat} {d : DataW H} {ps : List MemPlace}
    (h : DataW.Trod enc Ybaf.prog W 0 (fun _ => true) true 38 (.slice va len cap) d ps) : len ≤ cap ∧ ∃ vs : List Nat, Floats W va len vs := by
  obtain ⟨fuel, hf⟩ := h
  rcases Deep.open_slice1 Ybaf.underlying38 cells25 hf with ⟨hcs, _⟩ | ⟨a, l, c, m, n, V, D, Pl, hcs, hb, hl, hm, hmm, hx, hi⟩
  · simp [Value.cells] at hcs
    obtain ⟨rfl, rfl, rfl⟩ := hcs
    exact ⟨Nat.le_refl _, [], Or.inl rfl⟩
  · simp [Value.cells] at hcs
    obtain ⟨rfl, rfl, rfl⟩ := hcs
    simp at hmm
    refine ⟨hl, ?_⟩
    by_cases h0 : len = 0
    · exact ⟨[], Or.inl h0⟩
    obtain ⟨b, off, spot⟩ := a
    have hspot : spot = none := by
      have := (hi 0 (by omega)).1
      simpa [Addr.add] using World.cell?_spot this
    subst hspot
    have hv : ∀ i, i < len → ∃ x : Nat, W.cell? ⟨b, off + i, none⟩ = some (.float .f64 x) := by
      intro i hlt
      obtain ⟨e1, e2⟩ := hi i (by omega)
      rw [addr_add] at e1
      cases n with
      | zero => simp [DataW.trod] at e2
      | succ n =>
        generalize V i = u at e1 e2
        simp only [DataW.trod, Ybaf.underlying25] at e2
        cases u with
        | float k x =>
          cases k with
          | f64 => exact ⟨x, e1⟩
          | f32 => simp at e2
        | _ => simp at e2
    obtain ⟨f, hff⟩ := Deep.choose_lt hv
    refine ⟨(List.range len).map f, Or.inr ⟨b, off, rfl, fun j hj => ?_⟩⟩
    rw [hff j hj]
    simp [List.getD_eq_getElem?_getD, hj]

/-- One start that fits: the zero values; the world's shape in one pass. -/
theorem shapedZip (os : Os) : (World.plainHolding Ybaf.checked.prog os ⟨#[], #[.slice none 0 0, .int .u8 0, .bool false, .float .f64 0, .int .i64 0], []⟩).variablesZipB Ybaf.checked.prog = true := by kernel_rfl
theorem shapedRest (os : Os) : ((World.plainHolding Ybaf.checked.prog os ⟨#[], #[.slice none 0 0, .int .u8 0, .bool false, .float .f64 0, .int .i64 0], []⟩).heap.toList.drop Ybaf.checked.prog.globals.size).take ((begin Ybaf.checked.prog (fun _ _ => 0) default).world.heap.size - Ybaf.checked.prog.globals.size) =
      (begin Ybaf.checked.prog (fun _ _ => 0) default).world.heap.toList.drop Ybaf.checked.prog.globals.size := by kernel_rfl
theorem argsOk (os : Os) : Input.okWideB Ybaf.checked.prog (World.plainHolding Ybaf.checked.prog os ⟨#[], #[.slice none 0 0, .int .u8 0, .bool false, .float .f64 0, .int .i64 0], []⟩) 5 ⟨#[], #[.slice none 0 0, .int .u8 0, .bool false, .float .f64 0, .int .i64 0], []⟩ = true := by kernel_rfl
theorem preOk (os : Os) (H : Type) (enc : TypeId × Value → H) : (OpenSpec.ofChange Rows.lawS4496CApplySpec).bare.preB enc Ybaf.checked.prog Ybaf.f5 [] false (World.plainHolding Ybaf.checked.prog os ⟨#[], #[.slice none 0 0, .int .u8 0, .bool false, .float .f64 0, .int .i64 0], []⟩).memory #[.slice none 0 0, .int .u8 0, .bool false, .float .f64 0, .int .i64 0] 8 = true := by kernel_rfl
theorem sizedOk (os : Os) (H : Type) (enc : TypeId × Value → H) : (OpenSpec.ofChange Rows.lawS4496CApplySpec).bare.sizedB enc Ybaf.checked.prog Ybaf.f5 false (World.plainHolding Ybaf.checked.prog os ⟨#[], #[.slice none 0 0, .int .u8 0, .bool false, .float .f64 0, .int .i64 0], []⟩).memory #[.slice none 0 0, .int .u8 0, .bool false, .float .f64 0, .int .i64 0] 8 = true := by kernel_rfl
set_option maxRecDepth 100000 in
theorem witness (os : Os) (H : Type) (enc : TypeId × Value → H) (F : Stop.Interp) : ∃ (w : World) (tape : Tape) (i : Input), w.os = os ∧ (w.forCall tape i).Shaped Ybaf.checked.prog ∧ i.vars = [] ∧ Input.okWide Ybaf.checked.prog (w.forCall tape i) .any w.heap.size 5 i ∧
      (OpenSpec.ofChange Rows.lawS4496CApplySpec).preRow enc Ybaf.checked.prog Ybaf.f5 [] false [] (w.forCall tape i).memory i.args ∧ ({} : Assume).holds Ybaf.checked.prog (lone (Frame.enter Ybaf.checked.prog 5 i.args .normal) [] (w.forCall tape i)) ∧ F.answers tape :=
  ⟨World.holding Ybaf.checked.prog os ⟨#[], #[.slice none 0 0, .int .u8 0, .bool false, .float .f64 0, .int .i64 0], []⟩, F.over fun _ _ => 0, ⟨#[], #[.slice none 0 0, .int .u8 0, .bool false, .float .f64 0, .int .i64 0], []⟩, rfl, World.shaped_of_ZipB (shapedZip os) (shapedRest os), (Input.okWide_of_okWideB (base := 0) (argsOk os)).1, (Input.okWide_of_okWideB (argsOk os)).2, OpenSpec.preRow_of_B rfl 8 (preOk os H enc) (sizedOk os H enc) (laidMetH_nil _ _), by
    simp only [Assume.holds]
    exact ⟨by simp, by simp, fun _ => F.over_modest Modest.zero, by simp, by simp⟩, F.over_answers _⟩

set_option maxRecDepth 100000 in
theorem lifted (os : Os) (started : os.Started) (H : Type) (enc : TypeId × Value → H) :
    ReturnsInTold none {} Ybaf.checked os 5 .any Input.okWide ((OpenSpec.ofChange Rows.lawS4496CApplySpec).preRow enc Ybaf.prog Ybaf.f5 [] false []) (fun F => ((OpenSpec.ofChange Rows.lawS4496CApplySpec).at F).post enc Ybaf.prog Ybaf.f5 false true false false) (aloneAtReturn Ybaf.prog) nothingAlways := by
  refine returnsInTold_of_row (C := Ybaf.checked) (s := OpenSpec.ofChange Rows.lawS4496CApplySpec) mayEnter own started noInit Ybaf.func5
    (witness os H enc) ?_
  intro F W base args ds gs before _ hF hval0 hW _ _ _ _ _
  have hval : ∀ (j : Nat) t v, Ybaf.f5.params[j]? = some t → args[j]? = some v → Value.okWide Ybaf.prog W .any base t v := hval0
  have hW' := hW
  obtain ⟨p, q, hA0, hV, rfl, hfz, hnd⟩ := hW
  have hA : DataW.TrodAll enc Ybaf.prog W 0 (fun _ => true) true Ybaf.f5.params.toList args.toList ds p := hA0
  rw [Ybaf.params5] at hA hval
  obtain ⟨v0, vs0, d0, ds0, p0, q0, hargs, rfl, rfl, h0, r0⟩ := trodAll_cons hA
  obtain ⟨v1, vs1, d1, ds1, p1, q1, rfl, rfl, rfl, h1, r1⟩ := trodAll_cons r0
  obtain ⟨v2, vs2, d2, ds2, p2, q2, rfl, rfl, rfl, h2, r2⟩ := trodAll_cons r1
  obtain ⟨v3, vs3, d3, ds3, p3, q3, rfl, rfl, rfl, h3, r3⟩ := trodAll_cons r2
  obtain ⟨v4, vs4, d4, ds4, p4, q4, rfl, rfl, rfl, h4, r4⟩ := trodAll_cons r3
  obtain ⟨rfl, rfl, rfl⟩ := trodAll_nil r4
  obtain rfl : args = #[v0, v1, v2, v3, v4] := by cases args; simp_all
  obtain ⟨rfl, rfl⟩ := trodVars_none hV
  obtain ⟨va, len, cap, rfl⟩ := okWide_slice Ybaf.underlying38 (hval 0 38 v0 rfl rfl)
  have k0 := h0
  have lt0 : ∀ x ∈ p0, x.block < W.heap.size := by obtain ⟨m, hm⟩ := k0; exact DataW.trod_lt m _ _ _ hm
  obtain ⟨hlc, vs, hvs⟩ := floats_open h0
  obtain ⟨a1, rfl, rfl, rfl, w1⟩ := open_int Ybaf.underlying5 (hval 1 5 v1 rfl rfl) h1
  obtain ⟨a2, rfl, rfl, rfl⟩ := open_bool Ybaf.underlying4 (hval 2 4 v2 rfl rfl) h2
  obtain ⟨a3, rfl, rfl, rfl, w3⟩ := open_float Ybaf.underlying25 (hval 3 25 v3 rfl rfl) h3
  obtain ⟨a4, rfl, rfl, rfl, w4⟩ := open_int Ybaf.underlying3 (hval 4 3 v4 rfl rfl) h4
  clear hA0 hval0
  have hb := w1
  simp only [Lit.wf, Bool.and_eq_true, decide_eq_true_eq] at hb
  have hmin : IntKind.u8.min = 0 := rfl
  have hmax : IntKind.u8.max = 255 := rfl
  refine (apply_any va len cap a3 a1 a4 a2 vs W hlc hvs (by omega) (by omega)).mono fun e W' ⟨he, bel⟩ => ?_
  subst he
  exact ⟨_, rfl, _, _, _, [], _, [], hW', trodAll_mk1 (shut_bool Ybaf.underlying4 _), (trodAll_cons_mk (Below.trod laidOut readable38 row38 k0 bel lt0) (trodAll_cons_mk (shut_int Ybaf.underlying5 w1) (trodAll_cons_mk (shut_bool Ybaf.underlying4 a2) (trodAll_cons_mk (shut_float Ybaf.underlying25 w3) (trodAll_cons_mk (shut_int Ybaf.underlying3 w4) trodAll_mk0))))), rfl, bel.frame _, fun h => by cases h⟩

theorem laidOutP : laidOutB Ybaf.pinned.checked.prog = true := by kernel_rfl
theorem stops : Ybaf.pinned.checked.prog.stops = ["fmt.Sprintf"] := by kernel_rfl
theorem stopKnobs : Ybaf.pinned.checked.prog.stopKnobs = [] := by kernel_rfl
theorem quiet (os : Os) : Stop.quiet Ybaf.pinned.checked.prog os := by
  intro k hk
  rw [stopKnobs] at hk
  cases hk

theorem proved : Rows.LawS4496CApplyToldSaid :=
  Claim7.holds_of_told_any 5 Ybaf.f5 "fmt.Sprintf" [] [] _ _ _ (by kernel_rfl) rfl rfl rfl laidOutP (by kernel_rfl) rfl ⟨rfl, rfl, rfl, rfl, rfl, rfl, rfl⟩ rfl rfl (by kernel_rfl) (by kernel_rfl) Ybaf.func5 (by kernel_rfl)
    (of_decide_eq_true (by kernel_rfl)) (by unfold Func.isWrapper; first | (rw [if_pos (by decide +kernel)]; kernel_rfl) | (rw [if_neg (by decide +kernel)]; exact ⟨rfl, rfl⟩)) stops.symm rfl stopKnobs.symm (by kernel_rfl)
    (by kernel_rfl) (by kernel_rfl) (by kernel_rfl) (by kernel_rfl) (by kernel_rfl) (by kernel_rfl) (by kernel_rfl) (by kernel_rfl) (by kernel_rfl) rfl (by kernel_rfl) rfl rfl
    rfl rfl
    rfl (by kernel_rfl) (by kernel_rfl) (by kernel_rfl) (by decide) (by kernel_rfl)
    (OpenClaim.moreEntering_of (by kernel_rfl) (by kernel_rfl) (by kernel_rfl) (by kernel_rfl) (by kernel_rfl) (by kernel_rfl) (by kernel_rfl) (by kernel_rfl) (by kernel_rfl) (by kernel_rfl))
    ⟨_, WideRow.started_initial, quiet _⟩
    (fun os started _ H enc _ => lifted os started H enc)

end Go.Proofs.YbulkcobyFmt.lawS4496CApply
