import Derived.Test.YbulkcodaS1
namespace Go.Proofs.Ybulkcoda
open Go.RowKit Go.MuLone

/-- The two bytes that spell i. -/
def enc2 (i : Nat) : Array Value := #[.int .u8 ((i : Int) % 256), .int .u8 ((i : Int) / 256)]
/-- v is a slice of the two bytes that spell i. -/
def Enc (B : Nat) (w : World) (v : Value) (i : Nat) : Prop := ∃ g, v = .slice (some ⟨g, 0, none⟩) 2 2 ∧ B ≤ g ∧ w.heap[g]? = some (.cells (enc2 i) 5)
theorem Enc.chg {B B' : Nat} {w w' : World} {v : Value} {i : Nat} {ts : List TypeId} (h : Enc B w v i) (k : Chg B' ts w w') (ht : ¬ 5 ∈ ts) : Enc B w' v i := by
  obtain ⟨g, h1, h2, h3⟩ := h
  exact ⟨g, h1, h2, k.block h3 ht⟩

theorem Sl.form {B : Nat} {t : TypeId} {w : World} {v : Value} {xs : List Value} (h : Sl B t w v xs) : ∃ a n c, v = .slice a n c := by
  rcases h with h | ⟨S, off, cap, cur, h1, _⟩
  · exact ⟨none, 0, 0, h.1⟩
  · exact ⟨_, _, _, h1⟩

set_option maxRecDepth 100000 in
set_option maxHeartbeats 1000000 in
theorem enc_any (i : Nat) (w : World) (hi : i ≤ 2000) : Calls Yba.prog 18 #[.int .i64 (i : Int)] w fun e w' => ∃ v, e = .returned v ∧ Enc w.heap.size w' v i ∧ Kept [] w w' := by
  go_enter Yba.func18, Yba.ntmps18
  go_wp2
  go_ret
  exact ⟨_, rfl, ⟨w.heap.size, rfl, Nat.le_refl _, (MapKept.heap_alloc w _).1⟩, (Kept.refl _ _).alloc _⟩

set_option maxRecDepth 100000 in
set_option maxHeartbeats 1000000 in
theorem push_any (B O : Nat) (qv : Value) (va : Option Addr) (vl vc : Nat) (qs : List Value) (d s : Int) (w : World) (hO : w.heap[O]? = some (.cells (oC qv d s) 100)) (hq : Sl B 84 w qv qs) (hl : qs.length ≤ 2000) (hBO : B ≤ O) :
    Calls Yba.prog 17 #[.pointer (some ⟨O, 0, none⟩), .slice va vl vc] w fun e w' => e = .returned (.tuple #[]) ∧ ∃ qv', w'.heap[O]? = some (.cells (oC qv' d s) 100) ∧ Sl B 84 w' qv' (qs ++ [.slice va vl vc]) ∧ Chg B [84, 100] w w' := by
  have c0 : w.cell? ⟨O, 0, none⟩ = some (.int .i32 0) := by rw [cell_of_heap hO]; rfl
  have f0 : w.frozen? ⟨O, 0, none⟩ = false := free_of_heap hO
  go_enter Yba.func17, Yba.ntmps17
  go_wp2_with fail
  refine (lock_free Yba.muLib ⟨O, 0, none⟩ _ c0 f0).mono ?_
  rintro e wl ⟨rfl, hwl⟩
  have hL : wl.heap[O]? = some (.cells (oL qv d s) 100) := by rw [hwl]; exact lockS hO
  have hcg : Chg B [84, 100] w wl := by rw [hwl]; exact (Chg.refl B _ w).setCell (p := ⟨O, 0, none⟩) hBO hO (by simp) _
  have hcg1 : Chg B [100] w wl := by rw [hwl]; exact (Chg.refl B _ w).setCell (p := ⟨O, 0, none⟩) hBO hO (by simp) _
  have hq1 : Sl B 84 (wl.alloc (.cells #[.slice va vl vc] 84)) qv qs := (hq.chg hcg1 (by simp)).chg (Chg.of_kept (B := B) (ts := []) ((Kept.refl [] wl).alloc _)) (by simp)
  have d2 : wl.cell? ⟨O, 2, none⟩ = some qv := by rw [cell_of_heap hL]; rfl
  have d5 : wl.cell? ⟨O, 5, none⟩ = some (.bool false) := by rw [cell_of_heap hL]; rfl
  have lO : O < wl.heap.size := lt_of_block hL
  obtain ⟨i0, hi, hz0, hz1, hz2⟩ := info_parts info84
  have hcv : (wl.alloc (.cells #[.slice va vl vc] 84)).cell? ⟨wl.heap.size, 0, none⟩ = some (.slice va vl vc) := by simp [go_sem]
  clear hwl hO c0 f0 hq hcg1
  go_wp2_with (at_builtin; refine wpList_append_sl rfl _ _ 88 rfl 84 i0 (.slice none 0 0) 24 Yba.underlying88 hi hz0 hz1 hz2 rfl (by omega) B _ qs rfl hq1 hl (by simp; omega) wl.heap.size 1 (.slice va vl vc) rfl hcv rfl ?_)
  intro qv' w2 hq2 hcg2
  obtain ⟨na, nl, nc, rfl⟩ := hq2.form
  have hO2 : w2.heap[O]? = some (.cells (oL qv d s) 100) := hcg2.block ((Below.heap_alloc _ _ _ lO).trans hL) (by simp)
  have k2 : ∃ v, w2.cell? ⟨O, 2, none⟩ = some v := ⟨qv, by rw [cell_of_heap hO2]; rfl⟩
  obtain ⟨v2, k2⟩ := k2
  have z2 : w2.frozen? ⟨O, 2, none⟩ = false := free_of_heap hO2
  have hcg3 : Chg B [84, 100] w w2 := (hcg.alloc _).trans (hcg2.weaken (by simp))
  clear hq1 d2 d5 hcv hcg hcg2
  go_wp2_with fail
  have hO3 : (w2.setCell ⟨O, 2, none⟩ (.slice na nl nc)).heap[O]? = some (.cells (oL (.slice na nl nc) d s) 100) := heap_setCell_same hO2 _
  refine (unlock_held Yba.muLib ⟨O, 0, none⟩ _ (by rw [cell_of_heap hO3]; rfl) (free_of_heap hO3)).mono ?_
  rintro e w4 ⟨rfl, hw4⟩
  go_wp2
  go_end0
  have hcg4 : Chg B [84, 100] w (w2.setCell ⟨O, 2, none⟩ (.slice na nl nc)) := hcg3.setCell (p := ⟨O, 2, none⟩) hBO hO2 (by simp) _
  refine ⟨rfl, .slice na nl nc, unlockS hO3, ?_, hcg4.setCell (p := ⟨O, 0, none⟩) hBO hO3 (by simp) _⟩
  exact hq2.chg (((Chg.refl B [100] w2).setCell (p := ⟨O, 2, none⟩) hBO hO2 (by simp) _).setCell (p := ⟨O, 0, none⟩) hBO hO3 (by simp) _) (by simp)

set_option maxRecDepth 100000 in
set_option maxHeartbeats 1000000 in
theorem startAfter_any (B O : Nat) (qv : Value) (d s n : Int) (w : World) (hO : w.heap[O]? = some (.cells (oC qv d s) 100)) (hBO : B ≤ O) :
    Calls Yba.prog 20 #[.pointer (some ⟨O, 0, none⟩), .int .i64 n] w fun e w' => e = .returned (.tuple #[]) ∧ w'.heap[O]? = some (.cells (oC qv n n) 100) ∧ Chg B [100] w w' := by
  have c0 : w.cell? ⟨O, 0, none⟩ = some (.int .i32 0) := by rw [cell_of_heap hO]; rfl
  have f0 : w.frozen? ⟨O, 0, none⟩ = false := free_of_heap hO
  go_enter Yba.func20, Yba.ntmps20
  go_wp2_with fail
  refine (lock_free Yba.muLib ⟨O, 0, none⟩ _ c0 f0).mono ?_
  rintro e wl ⟨rfl, hwl⟩
  have hL : wl.heap[O]? = some (.cells (oL qv d s) 100) := by rw [hwl]; exact lockS hO
  have hcg1 : Chg B [100] w wl := by rw [hwl]; exact (Chg.refl B _ w).setCell (p := ⟨O, 0, none⟩) hBO hO (by simp) _
  have d3 : wl.cell? ⟨O, 3, none⟩ = some (.int .i64 d) := by rw [cell_of_heap hL]; rfl
  have d4 : wl.cell? ⟨O, 4, none⟩ = some (.int .i64 s) := by rw [cell_of_heap hL]; rfl
  have z3 : wl.frozen? ⟨O, 3, none⟩ = false := free_of_heap hL
  have z4 : wl.frozen? ⟨O, 4, none⟩ = false := free_of_heap hL
  clear hwl hO c0 f0
  go_wp2_with fail
  have hO2 : (wl.setCell ⟨O, 3, none⟩ (.int .i64 n)).heap[O]? = some (.cells (oL qv n s) 100) := heap_setCell_same hL _
  have hO3 : ((wl.setCell ⟨O, 3, none⟩ (.int .i64 n)).setCell ⟨O, 4, none⟩ (.int .i64 n)).heap[O]? = some (.cells (oL qv n n) 100) := heap_setCell_same hO2 _
  refine (unlock_held Yba.muLib ⟨O, 0, none⟩ _ (by rw [cell_of_heap hO3]; rfl) (free_of_heap hO3)).mono ?_
  rintro e w4 ⟨rfl, hw4⟩
  go_wp2
  go_end0
  exact ⟨rfl, unlockS hO3, ((hcg1.setCell (p := ⟨O, 3, none⟩) hBO hL (by simp) _).setCell (p := ⟨O, 4, none⟩) hBO hO2 (by simp) _).setCell (p := ⟨O, 0, none⟩) hBO hO3 (by simp) _⟩
end Go.Proofs.Ybulkcoda
