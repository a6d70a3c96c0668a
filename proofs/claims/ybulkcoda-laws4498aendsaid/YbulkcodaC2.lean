import Derived.Test.YbulkcodaC1
import Derived.Test.YbulkcodaB2
namespace Go.Proofs.Ybulkcoda
open Go.RowKit Go.MuLone

/-- The cells of an outbox. -/
def oC (q : Value) (d s : Int) : Array Value := #[.int .i32 0, .int .u32 0, q, .int .i64 d, .int .i64 s, .bool false, .bool false, .chan none]
/-- .. while it is locked. -/
def oL (q : Value) (d s : Int) : Array Value := #[.int .i32 1, .int .u32 0, q, .int .i64 d, .int .i64 s, .bool false, .bool false, .chan none]

theorem lockS {w : World} {O : Nat} {q : Value} {d s : Int} (h : w.heap[O]? = some (.cells (oC q d s) 100)) : (w.setCell ⟨O, 0, none⟩ (.int .i32 1)).heap[O]? = some (.cells (oL q d s) 100) := heap_setCell_same h _
theorem unlockS {w : World} {O : Nat} {q : Value} {d s : Int} (h : w.heap[O]? = some (.cells (oL q d s) 100)) : (w.setCell ⟨O, 0, none⟩ (.int .i32 0)).heap[O]? = some (.cells (oC q d s) 100) := heap_setCell_same h _

/-- Locked and unlocked again, with new blocks between. -/
theorem kept_locked {w w1 : World} {O : Nat} {q : Value} {d s : Int} (h : w.heap[O]? = some (.cells (oC q d s) 100)) (hk : Kept [] (w.setCell ⟨O, 0, none⟩ (.int .i32 1)) w1) : Kept [] w (w1.setCell ⟨O, 0, none⟩ (.int .i32 0)) := by
  have hlt := lt_of_block h
  have h1 := lockS h
  have h2 : w1.heap[O]? = some (.cells (oL q d s) 100) := (hk.block O (lt_of_block h1) (by simp)).trans h1
  have h3 := unlockS h2
  have K : Kept [O] w (w1.setCell ⟨O, 0, none⟩ (.int .i32 0)) := (((Kept.refl [O] w).setCell (p := ⟨O, 0, none⟩) (Or.inl (by simp)) _).trans (hk.weaken (by simp))).setCell (p := ⟨O, 0, none⟩) (Or.inl (by simp)) _
  refine ⟨K.os, K.tape, K.output, K.size, fun k hk' _ => ?_⟩
  by_cases e : k = O
  · subst e; exact h3.trans h.symm
  · exact K.block k hk' (by simpa using e)

theorem add_block (a : Addr) (j : Nat) : (a.add j).block = a.block := by unfold Addr.add; split <;> first | rfl | (split <;> rfl)
theorem s2_drew {w w' : World} {a b : Addr} {x y : Value} (h : w'.cell? a = some x ∧ w'.cell? b = some y ∧ Kept [] w w') : w'.drew.cell? a = some x ∧ w'.drew.cell? b = some y ∧ Kept [] w w'.drew := ⟨h.1, h.2.1, h.2.2.drew⟩
theorem s2_kept {w w' w'' : World} {a b : Addr} {x y : Value} (h : w'.cell? a = some x ∧ w'.cell? b = some y ∧ Kept [] w w') (k : Kept [] w' w'') : w''.cell? a = some x ∧ w''.cell? b = some y ∧ Kept [] w w'' := ⟨k.cellSome h.1 (by simp), k.cellSome h.2.1 (by simp), h.2.2.trans k⟩

set_option maxRecDepth 100000 in
set_option maxHeartbeats 1000000 in
theorem kept_some (O : Nat) (ad : Addr) (n c : Nat) (d s : Int) (xs : List Value) (w : World) (hO : w.heap[O]? = some (.cells (oC (.slice (some ad) n c) d s) 100)) (hn : n ≤ 2000) (hl : xs.length = n)
    (hx : ∀ j u, xs[j]? = some u → w.cell? (ad.add j) = some u) (h1 : ∀ u ∈ xs, u.oneCell' = true) (hne : ¬ ad.block = O) :
    Calls Yba.prog 15 #[.pointer (some ⟨O, 0, none⟩)] w fun e w' => ∃ g cap, e = .returned (.tuple #[.int .i64 d, .slice (some ⟨g, 0, none⟩) n cap]) ∧ w.heap.size ≤ g ∧ Row 84 w' g xs ∧ Kept [] w w' := by
  have c0 : w.cell? ⟨O, 0, none⟩ = some (.int .i32 0) := by rw [cell_of_heap hO]; rfl
  have f0 : w.frozen? ⟨O, 0, none⟩ = false := free_of_heap hO
  go_enter_defers Yba.func15, Yba.ntmps15
  go_wp2_with (go_at_call 23; refine (lock_free Yba.muLib ⟨O, 0, none⟩ _ c0 f0).mono ?_; rintro e w' ⟨rfl, rfl⟩)
  obtain ⟨wl, hwl⟩ : ∃ wl, wl = w.setCell ⟨O, 0, none⟩ (.int .i32 1) := ⟨_, rfl⟩
  rw [← hwl]
  have hL : wl.heap[O]? = some (.cells (oL (.slice (some ad) n c) d s) 100) := by rw [hwl]; exact lockS hO
  have d2 : wl.cell? ⟨O, 2, none⟩ = some (.slice (some ad) n c) := by rw [cell_of_heap hL]; rfl
  have d3 : wl.cell? ⟨O, 3, none⟩ = some (.int .i64 d) := by rw [cell_of_heap hL]; rfl
  have hx' : ∀ j u, xs[j]? = some u → wl.drew.cell? (ad.add j) = some u := by
    intro j u hj
    rw [hwl]
    exact ((Kept.refl [O] w).setCell (p := ⟨O, 0, none⟩) (Or.inl (by simp)) _).cellSome (hx j u hj) (by rw [add_block]; simpa using hne)
  have Hwl := hide hwl
  have HO := hide hO
  clear c0 f0 hx hwl hO
  go_region_held3 (fun w' => w'.cell? ⟨O, 2, none⟩ = some (.slice (some ad) n c) ∧ w'.cell? ⟨O, 3, none⟩ = some (.int .i64 d) ∧ Kept [] wl w')
    (first | exact ⟨d2, d3, (Kept.refl _ _).drew⟩ | exact s2_kept (by assumption) (by assumption) | exact s2_drew (by assumption))
    ((go_at_call 25; refine (sclone_some ad n c xs _ hn hl hx' h1).mono ?_; rintro e w1 ⟨g, cap, rfl, hg, hrow, hk⟩))
  go_wp2
  have hkl : Kept [] wl w1 := ((Kept.refl _ _).drew).trans hk
  have hL1 : w1.heap[O]? = some (.cells (oL (.slice (some ad) n c) d s) 100) := (hkl.block O (lt_of_block hL) (by simp)).trans hL
  have KK : Kept [] w (w1.setCell ⟨O, 0, none⟩ (.int .i32 0)) := kept_locked (unhide HO) (by rw [← unhide Hwl]; exact hkl)
  have hOlt := lt_of_block (unhide HO)
  have hsz : w.heap.size ≤ g := by
    have e := unhide Hwl
    rw [e] at hg
    simpa [World.setCell] using hg
  refine leaves_cons (f := 24) (args := #[.pointer (some ⟨O, 0, none⟩)]) (by simp) (by simp [go_sem]) ?_
  refine (unlock_deferred Yba.muLib ⟨O, 0, none⟩ .returning _ (by rw [cell_of_heap hL1]; rfl) (free_of_heap hL1)).mono ?_
  rintro e u' w'' ⟨rfl, rfl, rfl⟩
  refine ⟨_, results_tmp2 rfl _ _ _, g, cap, rfl, hsz, hrow.kept (ex := [O]) ((Kept.refl [O] w1).setCell (p := ⟨O, 0, none⟩) (Or.inl (by simp)) _) (by simp; omega), KK⟩

set_option maxRecDepth 100000 in
set_option maxHeartbeats 1000000 in
theorem kept_nil (O : Nat) (n c : Nat) (d s : Int) (w : World) (hO : w.heap[O]? = some (.cells (oC (.slice none n c) d s) 100)) :
    Calls Yba.prog 15 #[.pointer (some ⟨O, 0, none⟩)] w fun e w' => e = .returned (.tuple #[.int .i64 d, .slice none 0 0]) ∧ Kept [] w w' := by
  have c0 : w.cell? ⟨O, 0, none⟩ = some (.int .i32 0) := by rw [cell_of_heap hO]; rfl
  have f0 : w.frozen? ⟨O, 0, none⟩ = false := free_of_heap hO
  go_enter_defers Yba.func15, Yba.ntmps15
  go_wp2_with (go_at_call 23; refine (lock_free Yba.muLib ⟨O, 0, none⟩ _ c0 f0).mono ?_; rintro e w' ⟨rfl, rfl⟩)
  obtain ⟨wl, hwl⟩ : ∃ wl, wl = w.setCell ⟨O, 0, none⟩ (.int .i32 1) := ⟨_, rfl⟩
  rw [← hwl]
  have hL : wl.heap[O]? = some (.cells (oL (.slice none n c) d s) 100) := by rw [hwl]; exact lockS hO
  have d2 : wl.cell? ⟨O, 2, none⟩ = some (.slice none n c) := by rw [cell_of_heap hL]; rfl
  have d3 : wl.cell? ⟨O, 3, none⟩ = some (.int .i64 d) := by rw [cell_of_heap hL]; rfl
  have Hwl := hide hwl
  have HO := hide hO
  clear c0 f0 hwl hO
  go_quiet ((go_at_call 25; exact Calls.quiet_of_same (sclone_nil n c _)))
  go_wp2
  have hkl : ∀ m, Kept [] wl (wl.drewN m) := fun m => (Kept.refl _ _).drewN m
  refine leaves_cons (f := 24) (args := #[.pointer (some ⟨O, 0, none⟩)]) (by simp) (by simp [go_sem]) ?_
  refine (unlock_deferred Yba.muLib ⟨O, 0, none⟩ .returning _ (by rw [cell_of_heap (show (World.drewN wl _).heap[O]? = _ from hL)]; rfl) (free_of_heap (show (World.drewN wl _).heap[O]? = _ from hL))).mono ?_
  rintro e u' w'' ⟨rfl, rfl, rfl⟩
  refine ⟨_, results_tmp2 rfl _ _ _, rfl, kept_locked (unhide HO) (by rw [← unhide Hwl]; exact hkl _)⟩
end Go.Proofs.Ybulkcoda
