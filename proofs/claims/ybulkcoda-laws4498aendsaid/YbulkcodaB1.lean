import Derived.Test.YbulkcodaKept
namespace Go.Proofs.Ybulkcoda
open Go.RowKit

/-- The streams of a server, as the call laid them: block T. -/
def Streams (w : World) (T n : Nat) (R M Q : Nat → Nat) : Prop :=
  ∀ j, j < n → w.cell? ⟨T, j * 3, none⟩ = some (.float .f64 (R j)) ∧ w.cell? ⟨T, j * 3 + 1, none⟩ = some (.float .f64 (M j)) ∧ w.cell? ⟨T, j * 3 + 1 + 1, none⟩ = some (.float .f64 (Q j))
theorem Streams.kept {ex : List Nat} {w w' : World} {T n : Nat} {R M Q : Nat → Nat} (h : Streams w T n R M Q) (k : Kept ex w w') (he : ¬ T ∈ ex) : Streams w' T n R M Q :=
  fun j hj => ⟨k.cellSome (h j hj).1 he, k.cellSome (h j hj).2.1 he, k.cellSome (h j hj).2.2 he⟩

set_option maxHeartbeats 1000000 in
theorem util_some (nm : ByteArray) (T n c : Nat) (R M Q : Nat → Nat) (w : World) (hn : n ≤ 1024) (hs : Streams w T n R M Q) :
    Calls Yba.prog 22 #[.agg #[.string nm, .slice (some ⟨T, 0, none⟩) n c]] w fun e w' => ∃ u, e = .returned (.float .f64 u) ∧ Res (sumF R M n) u ∧ Kept [] w w' := by
  have fm := fun w t x y => run_fmul (P := Yba.prog) w t x y
  have fa := fun w t x y => run_fadd (P := Yba.prog) w t x y
  have hsf := fun (w : World) (a : Addr) (b : Nat) (m : Mode) => run_store Yba.prog w a (.float .f64 b) m rfl
  go_enter Yba.func22, Yba.ntmps22
  go_wp2
  go_loopw [3, 9] (fun u i wr => ∃ k : Nat, k ≤ n ∧ i = .int .i64 k ∧ (∃ x, u = .float .f64 x ∧ Res (sumF R M k) x) ∧ Kept [] w wr) (fun _ i _ => n - (intOf i).toNat)
  case atStart => exact ⟨0, Nat.zero_le _, rfl, ⟨0, rfl, rfl⟩, (Kept.refl _ _).alloc _⟩
  case round =>
    obtain ⟨k, hk, rfl, ⟨x, rfl, hx⟩, hkr⟩ := hrel
    by_cases hlt : k < n
    · obtain ⟨h0, h1, h2⟩ := (hs.kept hkr (by simp)) k hlt
      have b1 : (0 : Int) ≤ (k : Int) := by omega
      have b2 : (k : Int) < (n : Int) := by omega
      have hT : T < wr.heap.size := World.block_lt_of_cell? _ _ h0
      clear hs
      go_wp2
      go_roundw
      case rel => exact ⟨k + 1, by omega, by go_num, ⟨_, rfl, step_res hx (fV_res .mul (R k) (M k) _) (fV_res .add x _ _)⟩, (hkr.alloc _).drewN _⟩
      case measure => simp [intOf]; omega
    · obtain rfl : k = n := by omega
      go_wp2
      go_ret
      exact ⟨x, rfl, hx, hkr⟩

set_option maxHeartbeats 400000 in
theorem util_zero (nm : ByteArray) (sa : Option Addr) (c : Nat) (w : World) :
    Calls Yba.prog 22 #[.agg #[.string nm, .slice sa 0 c]] w fun e w' => e = .returned (.float .f64 0) ∧ Kept [] w w' := by
  go_enter Yba.func22, Yba.ntmps22
  go_wp2
  refine wp_loop_rounds 1 ?_
  rw [rounds_succ]
  go_wp2
  go_ret
  exact ⟨rfl, (Kept.refl _ _).alloc _⟩

/-- A server's streams: none, or a block of them. -/
def Serves (w : World) (sa : Option Addr) (n : Nat) (R M : Nat → Nat) : Prop := n = 0 ∨ ∃ T Q, sa = some ⟨T, 0, none⟩ ∧ Streams w T n R M Q
theorem Serves.kept {w w' : World} {sa : Option Addr} {n : Nat} {R M : Nat → Nat} (h : Serves w sa n R M) (k : Kept [] w w') : Serves w' sa n R M := by
  rcases h with h | ⟨T, Q, h1, h2⟩
  · exact Or.inl h
  · exact Or.inr ⟨T, Q, h1, h2.kept k (by simp)⟩

theorem util_any (nm : ByteArray) (sa : Option Addr) (n c : Nat) (R M : Nat → Nat) (w : World) (hn : n ≤ 1024) (hs : Serves w sa n R M) :
    Calls Yba.prog 22 #[.agg #[.string nm, .slice sa n c]] w fun e w' => ∃ u, e = .returned (.float .f64 u) ∧ Res (sumF R M n) u ∧ Kept [] w w' := by
  rcases hs with rfl | ⟨T, Q, rfl, h⟩
  · exact (util_zero nm sa c w).mono fun e w' ⟨h1, h2⟩ => ⟨0, h1, rfl, h2⟩
  · exact util_some nm T n c R M Q w hn h

/-- What saturated leaves: the first saturated server's error, or nil. -/
def SatRes (w' : World) (e : Ending) (n : Nat) (nm : Nat → ByteArray) (o : Nat → Option Nat) : Prop :=
  (∃ i E u, i < n ∧ (∀ j, j < i → sat (o j) = false) ∧ sat (o i) = true ∧ e = .returned (.iface 78 (.pointer (some ⟨E, 0, none⟩))) ∧ w'.heap[E]? = some (.cells #[.string (nm i), .float .f64 u] 81) ∧ Res (o i) u) ∨
  ((∀ i, i < n → sat (o i) = false) ∧ e = .returned .nilIface)

set_option maxRecDepth 100000 in
set_option maxHeartbeats 1000000 in
theorem saturated_any (V n c : Nat) (nm : Nat → ByteArray) (sa : Nat → Option Addr) (sl sc : Nat → Nat) (R M : Nat → Nat → Nat) (w : World) (hn : n ≤ 1024) (hl : ∀ i, i < n → sl i ≤ 1024)
    (h0 : ∀ i, i < n → w.cell? ⟨V, i * 2, none⟩ = some (.string (nm i))) (h1 : ∀ i, i < n → w.cell? ⟨V, i * 2 + 1, none⟩ = some (.slice (sa i) (sl i) (sc i))) (hs : ∀ i, i < n → Serves w (sa i) (sl i) (R i) (M i)) :
    Calls Yba.prog 13 #[.slice (some ⟨V, 0, none⟩) n c] w fun e w' => SatRes w' e n nm (fun i => sumF (R i) (M i) (sl i)) ∧ Kept [] w w' := by
  go_enter Yba.func13, Yba.ntmps13
  go_wp2
  go_loopw [8] (fun i wr => ∃ k : Nat, k ≤ n ∧ i = .int .i64 k ∧ (∀ j, j < k → sat (sumF (R j) (M j) (sl j)) = false) ∧ Kept [] w wr) (fun i _ => n - (intOf i).toNat)
  case atStart => exact ⟨0, Nat.zero_le _, rfl, fun j hj => absurd hj (Nat.not_lt_zero j), Kept.refl _ _⟩
  case round =>
    obtain ⟨k, hk, rfl, hno, hkr⟩ := hrel
    by_cases hlt : k < n
    · have c0 := hkr.cellSome (h0 k hlt) (by simp)
      have c1 := hkr.cellSome (h1 k hlt) (by simp)
      have hsv := (hs k hlt).kept (hkr.alloc (.cells #[.string (nm k), .slice (sa k) (sl k) (sc k)] 76))
      have hlk := hl k hlt
      have b1 : (0 : Int) ≤ (k : Int) := by omega
      have b2 : (k : Int) < (n : Int) := by omega
      have hT : V < wr.heap.size := World.block_lt_of_cell? _ _ c0
      have Hno := hide hno
      clear hs h0 h1 hl hno
      go_wp2_with fail
      refine (util_any (nm k) (sa k) (sl k) (sc k) (R k) (M k) _ hlk hsv).mono ?_
      rintro e w1 ⟨u, rfl, hu, hk1⟩
      have hg := ge1_res hu
      have kw : Kept [] w w1 := (hkr.alloc _).trans hk1
      have cb := hk1.cellSome (p := ⟨wr.heap.size, 0, none⟩) (v := .string (nm k)) (by simp [go_sem]) (by simp)
      clear c0 c1 hsv hk1
      cases hS : sat (sumF (R k) (M k) (sl k)) with
      | false =>
        rw [hS] at hg
        unfold ge1 at hg
        rw [Bool.or_eq_false_iff] at hg
        obtain ⟨g1, g2⟩ := hg
        have HS := hide hS
        clear hS hu
        go_wp2
        go_roundw
        case rel => exact ⟨k + 1, by omega, by go_num, (fun j hj => by
          by_cases e : j = k
          · subst e; exact unhide HS
          · exact unhide Hno j (by omega)), kw⟩
        case measure => simp [intOf]; omega
      | true =>
        rw [hS] at hg
        have HS := hide hS
        clear hS
        have ho : FloatKind.f64.format.order u 4607182418800017408 = some .gt ∨ FloatKind.f64.format.order u 4607182418800017408 = some .eq := by
          unfold ge1 at hg
          rw [Bool.or_eq_true] at hg
          rcases hg with h | h
          · exact Or.inl (by simpa using h)
          · exact Or.inr (by simpa using h)
        clear hg
        rcases ho with ho | ho
        all_goals
          go_wp2
          go_ret
          refine ⟨Or.inl ⟨k, w1.heap.size, u, hlt, unhide Hno, unhide HS, rfl, (MapKept.heap_alloc w1 _).1, hu⟩, kw.alloc _⟩
    · obtain rfl : k = n := by omega
      have Hno := hide hno
      clear hs h0 h1 hl hno
      go_wp2
      go_ret
      exact ⟨Or.inr ⟨unhide Hno, rfl⟩, hkr⟩
end Go.Proofs.Ybulkcoda
