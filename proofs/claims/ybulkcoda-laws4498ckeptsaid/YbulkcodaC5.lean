import Derived.Test.YbulkcodaC4
import Derived.Test.YbulkcodaE3
import Derived.ChangeOld
import Derived.Below
import Derived.SizedLaws
namespace Go.Proofs.Ybulkcoda
open Go.ChangeShapes Go.WideShapes Go.ChangeAt Go.RowKit Go.Deep

theorem bytes5 : Yba.prog.bytesOf 5 = 1 := by kernel_rfl

theorem weightsAll_in {H : Type} {P : Program} {e : TypeId} : ∀ {l : List (DataW H)} {d : DataW H}, d ∈ l → ∀ n ∈ d.weights P e, n ∈ DataW.weightsAll P e l
  | d' :: r, d, hd, n, hn => by
    simp only [DataW.weightsAll, List.mem_append]
    rcases List.mem_cons.1 hd with rfl | h
    · exact Or.inl hn
    · exact Or.inr (weightsAll_in h n hn)
theorem sized_in {H : Type} {P : Program} {ts : List TypeId} {ds : List (DataW H)} (h : (DataW.weightsEach P ts ds).all (· ≤ reachBytes) = true) {j : Nat} {t e q : TypeId} {elems spare e' sp' : List (DataW H)}
    (ht : ts[j]? = some t) (hd : ds[j]? = some (.slice elems spare)) (hu : P.underlying t = some (.slice e)) (hu2 : P.underlying e = some (.slice q)) (hx : DataW.slice e' sp' ∈ elems) : (e'.length + sp'.length) * P.bytesOf q ≤ reachBytes := by
  refine of_decide_eq_true (List.all_eq_true.1 h _ (DataW.weights_mem_each ht hd _ ?_))
  simp only [DataW.weights, hu, List.mem_cons, List.mem_append]
  exact Or.inr (Or.inl (weightsAll_in hx _ (by simp [DataW.weights, hu2])))

section
variable {H : Type} {enc : TypeId × Value → H} {W : World} {base : Nat} {spare : Nat → Bool} {held : Bool}

/-- A byte slice of the argument, with its datum. -/
theorem bytes_open' {fuel : Nat} {v : Value} {y : DataW H × List MemPlace} (h : DataW.trod enc Yba.prog W base spare held fuel 84 [v] = some y) :
    ∃ (sa : Option Addr) (len cap : Nat) (X : Nat → Nat), v = .slice sa len cap ∧ InB W sa len X ∧ (sa = none → len = 0) ∧ (len = 0 ∨ ∃ e' sp', y.1 = .slice e' sp' ∧ e'.length = len) := by
  rcases open_slice1 Yba.underlying84 cells5 h with ⟨hcs, _⟩ | ⟨a, len, cap, m, n, V, D, Pl, hcs, hb, hl, hm, hmm, hx0, hi⟩
  · simp at hcs
    exact ⟨none, 0, 0, fun _ => 0, hcs, Or.inl rfl, fun _ => rfl, Or.inl rfl⟩
  · simp at hcs
    subst hcs
    by_cases h0 : len = 0
    · exact ⟨some a, len, cap, fun _ => 0, rfl, Or.inl h0, (fun h => by cases h), Or.inl h0⟩
    have hle : len ≤ m := by rw [hmm]; split <;> omega
    have hx : ∀ i, i < len → ∃ x : Nat, W.cell? (a.add i) = some (.int .u8 (x : Nat)) ∧ x < 256 := by
      intro i hlt
      obtain ⟨e1, e2⟩ := hi i (by omega)
      obtain ⟨z, e3, _, e4⟩ := DataW.trod_int Yba.underlying5 e2
      obtain ⟨x, rfl, hx⟩ := byte_of_wf e4
      simp at e3
      exact ⟨x, by rw [e1, e3], hx⟩
    obtain ⟨b, off, spot⟩ := a
    have hspot : spot = none := by
      obtain ⟨x, e, _⟩ := hx 0 (by omega)
      simpa [Addr.add] using World.cell?_spot e
    subst hspot
    obtain ⟨f, hf⟩ := choose_lt hx
    refine ⟨some ⟨b, off, none⟩, len, cap, f, rfl, Or.inr ⟨b, off, rfl, fun j hj => ?_⟩, (fun h => by cases h), Or.inr ⟨_, _, by rw [hx0], by simp⟩⟩
    have e := hf j hj
    rw [addr_add] at e
    exact e

/-- The argument of LawS4498CKept. -/
theorem items_open {ia : Option Addr} {len cap : Nat} {d : DataW H} {ps : List MemPlace} (h : DataW.Trod enc Yba.prog W base spare held 88 (.slice ia len cap) d ps)
    (hsz : ∀ elems sp, d = .slice elems sp → ∀ e' sp', DataW.slice e' sp' ∈ elems → e'.length + sp'.length ≤ 140737488351232) :
    ∃ (la : Nat → Nat) (X : Nat → Nat → Nat), 0 < len → ∃ I off, ia = some ⟨I, off, none⟩ ∧ ∀ i, i < len → ∃ sa ca, W.cell? ⟨I, off + i, none⟩ = some (.slice sa (la i) ca) ∧ InB W sa (la i) (X i) ∧ (sa = none → la i = 0) ∧ la i ≤ 140737488351232 := by
  obtain ⟨fuel, hf⟩ := h
  rcases open_slice1 Yba.underlying88 cells84 hf with ⟨hcs, _⟩ | ⟨a, l, c, m, n, V, D, Pl, hcs, hb, hl, hm, hmm, hx0, hi⟩
  · simp [Value.cells] at hcs
    exact ⟨fun _ => 0, fun _ _ => 0, fun h => by omega⟩
  · simp [Value.cells] at hcs
    obtain ⟨rfl, rfl, rfl⟩ := hcs
    by_cases h0 : len = 0
    · exact ⟨fun _ => 0, fun _ _ => 0, fun h => by omega⟩
    have hle : len ≤ m := by rw [hmm]; split <;> omega
    have hd : d = .slice ((List.range len).map D) ((List.range (m - len)).map fun j => D (len + j)) := congrArg Prod.fst hx0
    have hx : ∀ i, i < len → ∃ x : Nat × (Nat → Nat), ∃ sa ca, W.cell? (a.add i) = some (.slice sa x.1 ca) ∧ InB W sa x.1 x.2 ∧ (sa = none → x.1 = 0) ∧ x.1 ≤ 140737488351232 := by
      intro i hlt
      obtain ⟨e1, e2⟩ := hi i (by omega)
      obtain ⟨sa, la, ca, X, e3, e4, e5, e6⟩ := bytes_open' e2
      refine ⟨(la, X), sa, ca, by rw [e1, e3], e4, e5, ?_⟩
      rcases e6 with e6 | ⟨e', sp', e6, e7⟩
      · omega
      · have := hsz _ _ hd e' sp' (by
          rw [← e6]
          exact List.mem_map.2 ⟨i, by simpa using hlt, rfl⟩)
        show la ≤ _
        omega
    obtain ⟨b, off, spot⟩ := a
    have hspot : spot = none := by
      obtain ⟨x, sa, ca, e, _⟩ := hx 0 (by omega)
      simpa [Addr.add] using World.cell?_spot e
    subst hspot
    obtain ⟨f, hf⟩ := choose_lt hx
    refine ⟨fun i => (f i).1, fun i => (f i).2, fun _ => ⟨b, off, rfl, fun i hi => ?_⟩⟩
    obtain ⟨sa, ca, e1, e2⟩ := hf i hi
    rw [addr_add] at e1
    exact ⟨sa, ca, e1, e2⟩
end

namespace lawS4498CKept

theorem own : ownKnob Yba.prog.godebug = none := by kernel_rfl
theorem laidOut : laidOutB Yba.prog = true := by kernel_rfl

set_option maxRecDepth 100000 in
set_option maxHeartbeats 400000 in
theorem big (d : Int) (ia : Option Addr) (n c : Nat) (w : World) (hn : 1024 < n) :
    Calls Yba.prog 6 #[.int .i64 d, .slice ia n c] w fun e w' => e = .returned (.bool true) ∧ Below w.heap.size w w' := by
  have hd : decide ((1024 : Int) < (n : Int)) = true := by simp; omega
  go_enter Yba.func6, Yba.ntmps6
  go_wp2
  go_ret
  exact ⟨rfl, Below.refl _ _⟩

set_option maxRecDepth 100000 in
theorem lifted (os : Os) (started : os.Started) (H : Type) (enc : TypeId × Value → H) :
    ReturnsInHanded {} Yba.checked os 6 .any (Rows.lawS4498CKeptSpec.pre6 enc Yba.prog Yba.f6 Rows.lawS4498CKeptRow.domain false) (Rows.lawS4498CKeptSpec.post enc Yba.prog Yba.f6 false true false false) := by
  refine returnsInHanded_of_change_sized (C := Yba.checked) own started (by kernel_rfl) Yba.func6
    (ChangeSpec.witness6 (enc := enc) (C := Yba.checked) false ⟨#[], #[.int .i64 0, .slice none 0 0], []⟩ 8 (by kernel_rfl) (by kernel_rfl) (by kernel_rfl) (by kernel_rfl)) ?_
  intro W base args ds gs before hval0 hW _ hsz0 _
  have hsz : (DataW.weightsEach Yba.prog (Yba.f6.params.toList ++ Rows.lawS4498CKeptSpec.plain.varTypes Yba.prog) (ds ++ gs)).all (· ≤ reachBytes) = true := hsz0
  clear hsz0
  have hval : ∀ (j : Nat) t v, Yba.f6.params[j]? = some t → args[j]? = some v → Value.okWide Yba.prog W .any base t v := hval0
  have hW' := hW
  obtain ⟨p, q, hA0, hV, rfl, hfz, hnd⟩ := hW
  have hA : DataW.TrodAll enc Yba.prog W 0 (fun _ => true) true Yba.f6.params.toList args.toList ds p := hA0
  rw [Yba.params6] at hA hval hsz
  obtain ⟨v0, vs0, d0, ds0, p0, q0, hargs, rfl, rfl, h0, r0⟩ := trodAll_cons hA
  obtain ⟨v1, vs1, d1, ds1, p1, q1, rfl, rfl, rfl, h1, r1⟩ := trodAll_cons r0
  obtain ⟨rfl, rfl, rfl⟩ := trodAll_nil r1
  obtain rfl : args = #[v0, v1] := by cases args; simp_all
  obtain ⟨rfl, rfl⟩ := trodVars_none hV
  obtain ⟨z, rfl⟩ := okWide_int Yba.underlying3 (hval 0 3 v0 rfl rfl)
  obtain ⟨a1, len1, cap1, rfl⟩ := okWide_slice Yba.underlying88 (hval 1 88 v1 rfl rfl)
  have k0 := h0
  have k1 := h1
  have lt0 : ∀ x ∈ p0, x.block < W.heap.size := by obtain ⟨m, hm⟩ := k0; exact DataW.trod_lt m _ _ _ hm
  have lt1 : ∀ x ∈ p1, x.block < W.heap.size := by obtain ⟨m, hm⟩ := k1; exact DataW.trod_lt m _ _ _ hm
  clear hA0 hval0
  have walk : Calls Yba.prog 6 #[.int .i64 z, .slice a1 len1 cap1] W fun e w' => e = .returned (.bool true) ∧ Below W.heap.size W w' := by
    by_cases hbig : 1024 < len1
    · exact big z a1 len1 cap1 W hbig
    obtain ⟨la, X, hI⟩ := items_open h1 (fun elems sp he e' sp' hx => by
      have := sized_in hsz (j := 1) (t := 88) (e := 84) (q := 5) rfl (by rw [he]; rfl) Yba.underlying88 Yba.underlying84 hx
      rw [bytes5, Nat.mul_one] at this
      exact this)
    exact ckept z a1 len1 cap1 la X W (by omega) hI
  refine walk.mono fun e W' ⟨he, bel⟩ => ?_
  subst he
  exact ⟨_, rfl, _, _, _, [], _, [], hW', trodAll_mk1 (shut_bool Yba.underlying4 _), (trodAll_cons_mk (Below.trod laidOut (by kernel_rfl) (of_decide_eq_true (by kernel_rfl)) k0 bel lt0) (trodAll_cons_mk (Below.trod laidOut (by kernel_rfl) (of_decide_eq_true (by kernel_rfl)) k1 bel lt1) trodAll_mk0)), rfl, bel.frame _, fun h => by cases h⟩

theorem over : Rows.lawS4498CKeptRow.holds Yba.pinned (OpenSpec.ofChange Rows.lawS4498CKeptSpec) :=
  OpenClaim.holds_of_wide 6 Yba.f6 rfl rfl rfl rfl rfl rfl rfl ⟨rfl, rfl, rfl, rfl, rfl⟩ rfl rfl rfl rfl rfl (by kernel_rfl) Yba.func6 (by kernel_rfl)
    (of_decide_eq_true (by kernel_rfl)) (by unfold Func.isWrapper; first | (rw [if_pos (by decide +kernel)]; kernel_rfl) | (rw [if_neg (by decide +kernel)]; exact ⟨rfl, rfl⟩))
    (fun os started H enc _ => lifted os started H enc)

theorem proved : Rows.LawS4498CKeptSaid :=
  over
end lawS4498CKept
end Go.Proofs.Ybulkcoda
