import Derived.Test.YbulkcodaS2
namespace Go.Proofs.Ybulkcoda
open Go.RowKit Go.MuLone

theorem slice_low {P : Program} (w : World) {t e : TypeId} {i : TypeInfo} (ht : P.underlying t = some (.slice e)) (hi : P.info? e = some i) (hs : i.size = 1) (S off m c l : Nat) (x : Int) (hx : x = (l : Int)) (hl : l ≤ m) : (Instr.slice t (.slice (some ⟨S, off, none⟩) m c) (some (.int .i64 x)) none none).run P w =
    .ok (.slice (some ⟨S, (if c = l then off else off + l), none⟩) (m - l) (c - l)) w := by
  subst hx
  simp [Instr.slice, run_underlying ht, Instr.sliceBounds, run_sliceBound, sizeOf, typeInfo, hi, hs, hl, addr_add]
  split <;> rfl
theorem slice_high {P : Program} (w : World) {t e : TypeId} {i : TypeInfo} (ht : P.underlying t = some (.slice e)) (hi : P.info? e = some i) (S off m c h : Nat) (x : Int) (hx : x = (h : Int)) (hl : h ≤ c) : (Instr.slice t (.slice (some ⟨S, off, none⟩) m c) none (some (.int .i64 x)) none).run P w =
    .ok (.slice (some ⟨S, off, none⟩) h c) w := by
  subst hx
  simp [Instr.slice, run_underlying ht, Instr.sliceBounds, run_sliceBound, sizeOf, typeInfo, hi, hl, addr_add]

theorem s4_drew {w w' : World} {a b : Addr} {x y : Value} (h : w'.cell? a = some x ∧ w'.cell? b = some y ∧ Kept [] w w') : w'.drew.cell? a = some x ∧ w'.drew.cell? b = some y ∧ Kept [] w w'.drew := ⟨h.1, h.2.1, h.2.2.drew⟩

set_option maxRecDepth 100000 in
set_option maxHeartbeats 1000000 in
theorem drop_none (O : Nat) (qv : Value) (d s n y : Int) (w : World) (hO : w.heap[O]? = some (.cells (oC qv d s) 100)) (hy : IntKind.i64.wrap ((if s < n then s else n) - d) = y) (hy0 : y ≤ 0) :
    Calls Yba.prog 19 #[.pointer (some ⟨O, 0, none⟩), .int .i64 n] w fun e w' => e = .returned (.tuple #[]) ∧ Kept [] w w' := by
  have c0 : w.cell? ⟨O, 0, none⟩ = some (.int .i32 0) := by rw [cell_of_heap hO]; rfl
  have f0 : w.frozen? ⟨O, 0, none⟩ = false := free_of_heap hO
  go_enter_defers Yba.func19, Yba.ntmps19
  go_wp2_with (go_at_call 23; refine (lock_free Yba.muLib ⟨O, 0, none⟩ _ c0 f0).mono ?_; rintro e w' ⟨rfl, rfl⟩)
  obtain ⟨wl, hwl⟩ : ∃ wl, wl = w.setCell ⟨O, 0, none⟩ (.int .i32 1) := ⟨_, rfl⟩
  rw [← hwl]
  have hL : wl.heap[O]? = some (.cells (oL qv d s) 100) := by rw [hwl]; exact lockS hO
  have d3 : wl.cell? ⟨O, 3, none⟩ = some (.int .i64 d) := by rw [cell_of_heap hL]; rfl
  have d4 : wl.cell? ⟨O, 4, none⟩ = some (.int .i64 s) := by rw [cell_of_heap hL]; rfl
  have Hwl := hide hwl
  have HO := hide hO
  have Hy := hide hy
  clear c0 f0 hwl hO hy
  go_region_held3 (fun w' => w'.cell? ⟨O, 3, none⟩ = some (.int .i64 d) ∧ w'.cell? ⟨O, 4, none⟩ = some (.int .i64 s) ∧ Kept [] wl w')
    (first | exact ⟨d3, d4, (Kept.refl _ _).drew⟩ | exact s2_kept (by assumption) (by assumption) | exact s2_drew (by assumption))
    (fail)
  rw [unhide Hy]
  generalize (if s < n then s else n) = mn
  go_wp2
  refine leaves_cons (f := 24) (args := #[.pointer (some ⟨O, 0, none⟩)]) (by simp) (by simp [go_sem]) ?_
  refine (unlock_deferred Yba.muLib ⟨O, 0, none⟩ .returning _ (by rw [cell_of_heap (show (World.drew wl).heap[O]? = _ from hL)]; rfl) (free_of_heap (show (World.drew wl).heap[O]? = _ from hL))).mono ?_
  rintro e u' w'' ⟨rfl, rfl, rfl⟩
  exact ⟨_, results_none rfl _ _ _, rfl, kept_locked (unhide HO) (by rw [← unhide Hwl]; exact (Kept.refl _ _).drew)⟩

/-- What clear leaves. -/
theorem heap_setCells {t : TypeId} (b o : Nat) : ∀ (xs : List Value) (w : World) (cur : Array Value), w.heap[b]? = some (.cells cur t) → o + xs.length ≤ cur.size →
    ∃ cur', (w.setCells b o xs).heap[b]? = some (.cells cur' t) ∧ cur'.size = cur.size ∧ (∀ j, (j < o ∨ o + xs.length ≤ j) → cur'[j]? = cur[j]?) ∧ Kept [b] w (w.setCells b o xs) := by
  intro xs
  induction xs generalizing o with
  | nil => intro w cur h _; exact ⟨cur, by simpa [World.setCells] using h, rfl, fun _ _ => rfl, by simpa [World.setCells] using Kept.refl [b] w⟩
  | cons x xs ih =>
    intro w cur h hl
    have h1 := heap_setCell_same (k := o) h x
    simp only [List.length_cons] at hl
    obtain ⟨cur', g1, g2, g3, g4⟩ := ih (o + 1) (w.setCell ⟨b, o, none⟩ x) _ h1 (by simp; omega)
    refine ⟨cur', by simpa [World.setCells] using g1, by simpa using g2, fun j hj => ?_, ?_⟩
    · simp only [List.length_cons] at hj
      rw [g3 j (by omega), Array.getElem?_setIfInBounds, if_neg (by omega)]
    · have : Kept [b] w ((w.setCell ⟨b, o, none⟩ x).setCells b (o + 1) xs) := ((Kept.refl [b] w).setCell (p := ⟨b, o, none⟩) (Or.inl (by simp)) x).trans g4
      simpa [World.setCells] using this

set_option maxRecDepth 100000 in
set_option maxHeartbeats 1000000 in
theorem drop_some (B O : Nat) (qv : Value) (qs : List Value) (d s n : Int) (k : Nat) (w : World) (hO : w.heap[O]? = some (.cells (oC qv d s) 100)) (hq : Sl B 84 w qv qs) (hBO : B ≤ O)
    (hy : IntKind.i64.wrap ((if s < n then s else n) - d) = (k : Int)) (hk0 : 0 < k) (hk1 : k ≤ qs.length) (hd0 : 0 ≤ d) (hd1 : d ≤ 4000) (hl : qs.length ≤ 2000) :
    Calls Yba.prog 19 #[.pointer (some ⟨O, 0, none⟩), .int .i64 n] w fun e w' => e = .returned (.tuple #[]) ∧ ∃ qv', w'.heap[O]? = some (.cells (oC qv' (d + k) s) 100) ∧ Sl B 84 w' qv' (qs.drop k) ∧ Chg B [84, 100] w w' := by
  have c0 : w.cell? ⟨O, 0, none⟩ = some (.int .i32 0) := by rw [cell_of_heap hO]; rfl
  have f0 : w.frozen? ⟨O, 0, none⟩ = false := free_of_heap hO
  obtain ⟨S, off, cap, cur, hqv, g2, g3, g4, g5, g6⟩ : ∃ S off cap cur, qv = .slice (some ⟨S, off, none⟩) qs.length cap ∧ B ≤ S ∧ w.heap[S]? = some (.cells cur 84) ∧ off + cap ≤ cur.size ∧ qs.length ≤ cap ∧ ∀ j u, qs[j]? = some u → cur[off + j]? = some u := by
    rcases hq with ⟨_, rfl⟩ | h
    · simp at hk1; omega
    · exact h
  subst hqv
  have hSO : ¬ S = O := by
    intro e; subst e; rw [hO] at g3; injection g3 with g3; injection g3 with _ g3; cases g3
  obtain ⟨i0, hi, hz0, hz1, hz2⟩ := info_parts info84
  go_enter_defers Yba.func19, Yba.ntmps19
  go_wp2_with (go_at_call 23; refine (lock_free Yba.muLib ⟨O, 0, none⟩ _ c0 f0).mono ?_; rintro e w' ⟨rfl, rfl⟩)
  obtain ⟨wl, hwl⟩ : ∃ wl, wl = w.setCell ⟨O, 0, none⟩ (.int .i32 1) := ⟨_, rfl⟩
  rw [← hwl]
  have hL : wl.heap[O]? = some (.cells (oL (.slice (some ⟨S, off, none⟩) qs.length cap) d s) 100) := by rw [hwl]; exact lockS hO
  have hcg : Chg B [84, 100] w wl := by rw [hwl]; exact (Chg.refl B _ w).setCell (p := ⟨O, 0, none⟩) hBO hO (by simp) _
  have gS : wl.heap[S]? = some (.cells cur 84) := by rw [hwl]; exact (Below.heap_setCell _ _ _ _ (by simpa using hSO)).trans g3
  have d3 : wl.cell? ⟨O, 3, none⟩ = some (.int .i64 d) := by rw [cell_of_heap hL]; rfl
  have d4 : wl.cell? ⟨O, 4, none⟩ = some (.int .i64 s) := by rw [cell_of_heap hL]; rfl
  have Hy := hide hy
  clear c0 f0 hwl hO hy hq g3
  go_region_held3 (fun w' => w'.cell? ⟨O, 3, none⟩ = some (.int .i64 d) ∧ w'.cell? ⟨O, 4, none⟩ = some (.int .i64 s) ∧ Kept [] wl w')
    (first | exact ⟨d3, d4, (Kept.refl _ _).drew⟩ | exact s2_kept (by assumption) (by assumption) | exact s2_drew (by assumption))
    (fail)
  rw [unhide Hy]
  generalize (if s < n then s else n) = mn
  have hk0' : ¬ (k : Int) ≤ 0 := by omega
  have d2 : wl.drew.cell? ⟨O, 2, none⟩ = some (.slice (some ⟨S, off, none⟩) qs.length cap) := by rw [cell_of_heap (show (World.drew wl).heap[O]? = _ from hL)]; rfl
  have sh := fun w => slice_high (P := Yba.prog) w Yba.underlying88 hi S off qs.length cap k (k : Int) rfl (by omega)
  obtain ⟨o', ho'⟩ : ∃ o', Hid (o' = if cap = k then off else off + k) := ⟨_, hide rfl⟩
  have slw : ∀ w, (Instr.slice 88 (.slice (some ⟨S, off, none⟩) qs.length cap) (some (.int .i64 (k : Int))) none none).run Yba.prog w = .ok (.slice (some ⟨S, o', none⟩) (qs.length - k) (cap - k)) w := fun w => by rw [unhide ho']; exact slice_low (P := Yba.prog) w Yba.underlying88 hi hz1 S off qs.length cap k (k : Int) rfl hk1
  obtain ⟨cur', r1, r2, r3, r4⟩ := heap_setCells (t := 84) S off (List.replicate k (.slice none 0 0)) wl.drew cur gS (by simp; omega)
  have hclr := fun ty => Lib.run_clear_slice (P := Yba.prog) wl.drew 88 84 ty (.slice none 0 0) Yba.underlying88 Yba.zeroValue84 rfl rfl S off k cap hk0 (fun j hj => by
    rw [cell_of_heap (show (World.drew wl).heap[S]? = _ from gS)]
    have hj' : off + j < cur.size := by omega
    simp [hj']) (fun j hj => free_of_heap (show (World.drew wl).heap[S]? = _ from gS))
  obtain ⟨wc, hwc⟩ : ∃ wc, wc = wl.drew.setCells S off (List.replicate k (.slice none 0 0)) := ⟨_, rfl⟩
  rw [← hwc] at r1 r4 hclr
  have hOc : wc.heap[O]? = some (.cells (oL (.slice (some ⟨S, off, none⟩) qs.length cap) d s) 100) := (r4.block O (lt_of_block hL) (by simp; omega)).trans hL
  have e2 : wc.cell? ⟨O, 2, none⟩ = some (.slice (some ⟨S, off, none⟩) qs.length cap) := by rw [cell_of_heap hOc]; rfl
  have e3 : wc.cell? ⟨O, 3, none⟩ = some (.int .i64 d) := by rw [cell_of_heap hOc]; rfl
  have z2 : wc.frozen? ⟨O, 2, none⟩ = false := free_of_heap hOc
  have z3 : wc.frozen? ⟨O, 3, none⟩ = false := free_of_heap hOc
  have hcc : Chg B [84, 100] w wc := (hcg.drew).trans (Chg.one r4 g2 gS (by simp))
  clear hwc
  go_wp2
  have hO1 : (wc.setCell ⟨O, 2, none⟩ (.slice (some ⟨S, o', none⟩) (qs.length - k) (cap - k))).heap[O]? = some (.cells (oL (.slice (some ⟨S, o', none⟩) (qs.length - k) (cap - k)) d s) 100) := heap_setCell_same hOc _
  have hO2 : ((wc.setCell ⟨O, 2, none⟩ (.slice (some ⟨S, o', none⟩) (qs.length - k) (cap - k))).setCell ⟨O, 3, none⟩ (.int .i64 (d + k))).heap[O]? = some (.cells (oL (.slice (some ⟨S, o', none⟩) (qs.length - k) (cap - k)) (d + k) s) 100) := heap_setCell_same hO1 _
  refine leaves_cons (f := 24) (args := #[.pointer (some ⟨O, 0, none⟩)]) (by simp) (by simp [go_sem]) ?_
  refine (unlock_deferred Yba.muLib ⟨O, 0, none⟩ .returning _ (by rw [cell_of_heap hO2]; rfl) (free_of_heap hO2)).mono ?_
  rintro e u' w'' ⟨rfl, rfl, rfl⟩
  refine ⟨_, results_none rfl _ _ _, rfl, .slice (some ⟨S, o', none⟩) (qs.length - k) (cap - k), unlockS hO2, ?_, ((hcc.setCell (p := ⟨O, 2, none⟩) hBO hOc (by simp) _).setCell (p := ⟨O, 3, none⟩) hBO hO1 (by simp) _).setCell (p := ⟨O, 0, none⟩) hBO hO2 (by simp) _⟩
  have hs1 : Sl B 84 wc (.slice (some ⟨S, o', none⟩) (qs.length - k) (cap - k)) (qs.drop k) := by
    refine Or.inr ⟨S, o', cap - k, cur', by simp, g2, r1, ?_, by simp; omega, fun j u hj => ?_⟩
    · rw [unhide ho', r2]; split <;> omega
    · rw [List.getElem?_drop] at hj
      have hjl : k + j < qs.length := by
        rcases Nat.lt_or_ge (k + j) qs.length with h | h
        · exact h
        · rw [List.getElem?_eq_none h] at hj; cases hj
      have ho : o' = off + k := by rw [unhide ho', if_neg (by omega)]
      rw [ho, r3 (off + k + j) (by simp), show off + k + j = off + (k + j) by omega]
      exact g6 (k + j) u hj
  exact hs1.chg ((((Chg.refl B [100] wc).setCell (p := ⟨O, 2, none⟩) hBO hOc (by simp) _).setCell (p := ⟨O, 3, none⟩) hBO hO1 (by simp) _).setCell (p := ⟨O, 0, none⟩) hBO hO2 (by simp) _) (by simp)
end Go.Proofs.Ybulkcoda
