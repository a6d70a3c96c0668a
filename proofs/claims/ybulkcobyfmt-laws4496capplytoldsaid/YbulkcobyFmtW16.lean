import Derived.Test.YbulkcobyFmtW14
namespace Go.Proofs.YbulkcobyFmt
open Go.RowKit Go.Extern.Stop Go.Stop Go.Extern

theorem grid_lit_none' (P S M c L LB C GB GA GL : Nat) (k pos : Int) (w : World) (hM : M ≤ 0) (hc : w.cell? ⟨P, 8, none⟩ = some (.slice (some ⟨S, 0, none⟩) M c)) (hl0 : w.cell? ⟨LB, 0, none⟩ = some (.string ⟨#[120]⟩)) (hl1 : w.cell? ⟨LB, 1, none⟩ = some (.string ⟨#[121]⟩)) (hl2 : w.cell? ⟨LB, 2, none⟩ = some (.func (Fn.func 11) #[] #[.pointer (some ⟨L, 0, none⟩)])) :
    Calls Ybaf.prog 12 #[.pointer (some ⟨P, 0, none⟩), .string ⟨#[79, 80]⟩, .agg #[.int .i64 k, .pointer (some ⟨LB, 0, none⟩), .func (Fn.func 9) #[] #[.pointer (some ⟨C, 0, none⟩), .pointer (some ⟨GB, 0, none⟩), .pointer (some ⟨GA, 0, none⟩), .pointer (some ⟨GL, 0, none⟩)]], .int .i64 pos] w fun e w' =>
      ∃ E, e = .returned (.iface 33 (.pointer (some ⟨E, 0, none⟩))) ∧ ErrAt w' E pos ∧ w.heap.size ≤ E ∧ Kept [] w w' := by
  obtain rfl : M = 0 := by omega
  exact grid_lit_none P S c L LB C GB GA GL k pos w hc hl0 hl1 hl2
theorem grid_lit_bad' (P S M m c L LB C GB GA GL lo v : Nat) (k pos : Int) (w : World) (hM : Hid (M = m + 1)) (hm : M ≤ 1024) (hc : w.cell? ⟨P, 8, none⟩ = some (.slice (some ⟨S, 0, none⟩) M c)) (hv : w.cell? ⟨S, m, none⟩ = some (.iface 26 (.float .f64 v))) (hL : w.cell? ⟨L, 0, none⟩ = some (.float .f64 lo)) (hg : geB v lo = false) (hl0 : w.cell? ⟨LB, 0, none⟩ = some (.string ⟨#[120]⟩)) (hl1 : w.cell? ⟨LB, 1, none⟩ = some (.string ⟨#[121]⟩)) (hl2 : w.cell? ⟨LB, 2, none⟩ = some (.func (Fn.func 11) #[] #[.pointer (some ⟨L, 0, none⟩)])) :
    Calls Ybaf.prog 12 #[.pointer (some ⟨P, 0, none⟩), .string ⟨#[79, 80]⟩, .agg #[.int .i64 k, .pointer (some ⟨LB, 0, none⟩), .func (Fn.func 9) #[] #[.pointer (some ⟨C, 0, none⟩), .pointer (some ⟨GB, 0, none⟩), .pointer (some ⟨GA, 0, none⟩), .pointer (some ⟨GL, 0, none⟩)]], .int .i64 pos] w fun e w' =>
      ∃ E, e = .returned (.iface 33 (.pointer (some ⟨E, 0, none⟩))) ∧ ErrAt w' E pos ∧ w.heap.size ≤ E ∧ Kept [] w w' := by
  obtain rfl : M = m + 1 := hM
  exact grid_lit_bad P S m c L LB C GB GA GL lo v k pos w hm hc hv hL hg hl0 hl1 hl2
theorem grid_last_err' (P S M m c L LB C GB GA GL lo v : Nat) (k pos : Int) (w : World) (hM : Hid (M = m + 1)) (hm : M ≤ 1024) (hmc : M ≤ c) (hc : w.cell? ⟨P, 8, none⟩ = some (.slice (some ⟨S, 0, none⟩) M c)) (hf : w.frozen? ⟨P, 8, none⟩ = false) (hv : w.cell? ⟨S, m, none⟩ = some (.iface 26 (.float .f64 v))) (hL : w.cell? ⟨L, 0, none⟩ = some (.float .f64 lo)) (hg : geB v lo = true) (hlt : (m : Int) < k - 1) (hk5 : k ≤ 5) (hl0 : w.cell? ⟨LB, 0, none⟩ = some (.string ⟨#[120]⟩)) (hl1 : w.cell? ⟨LB, 1, none⟩ = some (.string ⟨#[121]⟩)) (hl2 : w.cell? ⟨LB, 2, none⟩ = some (.func (Fn.func 11) #[] #[.pointer (some ⟨L, 0, none⟩)])) :
    Calls Ybaf.prog 12 #[.pointer (some ⟨P, 0, none⟩), .string ⟨#[79, 80]⟩, .agg #[.int .i64 k, .pointer (some ⟨LB, 0, none⟩), .func (Fn.func 9) #[] #[.pointer (some ⟨C, 0, none⟩), .pointer (some ⟨GB, 0, none⟩), .pointer (some ⟨GA, 0, none⟩), .pointer (some ⟨GL, 0, none⟩)]], .int .i64 pos] w fun e w' =>
      ∃ E, e = .returned (.iface 33 (.pointer (some ⟨E, 0, none⟩))) ∧ ErrAt w' E pos ∧ w.heap.size ≤ E ∧ Kept [P] w w' ∧ w'.cell? ⟨P, 8, none⟩ = some (.slice (some ⟨S, 0, none⟩) m c) := by
  obtain rfl : M = m + 1 := hM
  exact grid_last_err P S m c L LB C GB GA GL lo v k pos w hm hmc hc hf hv hL hg hlt hk5 hl0 hl1 hl2

set_option maxRecDepth 100000 in
set_option maxHeartbeats 1000000 in
theorem apply_t1z (va : Option Addr) (m vc l : Nat) (a pos : Int) (vs : List Nat) (w : World) (hm : m ≤ 1024) (hkc : m ≤ vc) (hv : Floats w va m vs) (ha0 : 0 ≤ a) (ha1 : a ≤ 255) (hz6 : (a % 6 == 0) = true) (hm0 : m ≤ 0) :
    Calls Ybaf.prog 5 #[.slice va m vc, .int .u8 a, .bool true, .float .f64 l, .int .i64 pos] w fun e w' => e = .returned (.bool true) ∧ Below w.heap.size w w' := by
  have hmk := fun w => make39 m hm w
  have hd : decide ((1024 : Int) < (m : Int)) = false := by simp; omega
  have hmf : ∀ (fn : Fn) (first cap : Array Value) (w : World), (Instr.makeFunc fn first cap).run Ybaf.prog w = .ok (.func fn first cap) w := fun _ _ _ _ => rfl
  go_enter Ybaf.func5, Ybaf.ntmps5
  go_wp2
  have k1 : Kept [] w ((w.alloc (.cells #[.float .f64 l] 25)).alloc (.cells (mk0 m) 41)) := ((Kept.refl [] w).alloc _).alloc _
  have f0 : Filled ((w.alloc (.cells #[.float .f64 l] 25)).alloc (.cells (mk0 m) 41)) (w.heap.size + 1) m 0 vs := Filled.zero (by have h := (MapKept.heap_alloc (w.alloc (.cells #[.float .f64 l] 25)) (.cells (mk0 m) 41)).1; rwa [World.size_alloc] at h)
  have hlo : ((w.alloc (.cells #[.float .f64 l] 25)).alloc (.cells (mk0 m) 41)).cell? ⟨w.heap.size, 0, none⟩ = some (.float .f64 l) := by simp [go_sem]
  go_loopw [34] (fun i wr => ∃ k : Nat, k ≤ m ∧ i = .int .i64 k ∧ Filled wr (w.heap.size + 1) m k vs ∧ Kept [w.heap.size + 1] ((w.alloc (.cells #[.float .f64 l] 25)).alloc (.cells (mk0 m) 41)) wr) (fun i _ => m - (intOf i).toNat)
  case atStart => exact ⟨0, Nat.zero_le _, rfl, f0, Kept.refl _ _⟩
  case round =>
    obtain ⟨k, hk, rfl, hfl, hkr⟩ := hrel
    have hbw : Below w.heap.size w wr := (k1.below (Nat.le_refl _) (by simp)).trans (hkr.below (by simp; omega) (by simp))
    have hvr := hv.kept hbw
    by_cases hkm : k < m
    · exfalso; omega
    · obtain rfl : k = m := by omega
      have hrow := hfl.row
      have lB : w.heap.size + 1 < wr.heap.size := hrow.lt
      have hlo2 : wr.cell? ⟨w.heap.size, 0, none⟩ = some (.float .f64 l) := hkr.cellSome hlo (by simp)
      have lB0 : w.heap.size < wr.heap.size := by omega
      clear f0 k1 hkr
      go_wp2_with fail
      refine (grid_lit_none' wr.heap.size (w.heap.size + 1) k k w.heap.size (wr.heap.size + 1 + 1 + 1 + 1 + 1 + 1) (wr.heap.size + 1) (wr.heap.size + 1 + 1 + 1 + 1) (wr.heap.size + 1 + 1) (wr.heap.size + 1 + 1 + 1) (1) pos _ hm0 ?_ ?_ ?_ ?_).mono ?_
      · simp [go_sem]
      · simp [go_sem]
      · simp [go_sem]
      · simp [go_sem]
      rintro e w2 ⟨E, rfl, hE, hsz, hk2⟩
      have kw : Kept [] wr w2 := Kept.trans (by repeat (first | exact Kept.refl _ _ | apply Kept.alloc)) hk2
      have cP := hk2.cellSome (p := ⟨wr.heap.size, 8, none⟩) (v := .slice (some ⟨w.heap.size + 1, 0, none⟩) k k) (by simp [go_sem]) (by simp)
      have cC := hk2.cellSome (p := ⟨wr.heap.size + 1, 0, none⟩) (v := .int .i64 0) (by simp [go_sem]) (by simp)
      have cR := hk2.cellSome (p := ⟨wr.heap.size + 1 + 1 + 1 + 1 + 1, 0, none⟩) (v := .int .i64 (1)) (by simp [go_sem]) (by simp)
      have cLo := kw.cellSome hlo2 (by simp)
      have hb2 : Below w.heap.size w w2 := hbw.trans (kw.below (by omega) (by simp))
      have hv2 := hvr.kept (kw.below (Nat.le_refl _) (by simp))
      have hr2 := hrow.kept kw (by simp)
      have hs2 : ∀ j, j < k → w2.cell? ⟨w.heap.size + 1, j, none⟩ = some (.iface 26 (.float .f64 (vs.getD j 0))) := fun j hj => hr2.cell j _ (nodes_get hj)
      have hbz : ((k : Int) == 0) = true := by simp; omega
      clear hk2 kw hvr hrow hr2 hfl hbw hv hlo2
      go_wp2
      go_quiet (fail)
      go_wp2_with (first | (go_at_call 13; refine (syntax_any _ _ _ (by exact hE)).mono ?_; rintro e w3 ⟨rfl, rfl⟩) | (go_at_call 14; refine (ceq_any _ _ _ _ _ vs _ hm (by exact hs2) (by exact hv2)).mono ?_; rintro e w3 ⟨rfl, q3, rfl⟩))
      go_ret
      exact ⟨rfl, below_drewN hb2 _⟩

set_option maxRecDepth 100000 in
set_option maxHeartbeats 1000000 in
theorem apply_t1p (va : Option Addr) (m vc l : Nat) (a pos : Int) (vs : List Nat) (w : World) (hm : m ≤ 1024) (hkc : m ≤ vc) (hv : Floats w va m vs) (ha0 : 0 ≤ a) (ha1 : a ≤ 255) (hz6 : (a % 6 == 0) = false) (hm0 : m ≤ 0) :
    Calls Ybaf.prog 5 #[.slice va m vc, .int .u8 a, .bool true, .float .f64 l, .int .i64 pos] w fun e w' => e = .returned (.bool true) ∧ Below w.heap.size w w' := by
  have hmk := fun w => make39 m hm w
  have hd : decide ((1024 : Int) < (m : Int)) = false := by simp; omega
  have hmf : ∀ (fn : Fn) (first cap : Array Value) (w : World), (Instr.makeFunc fn first cap).run Ybaf.prog w = .ok (.func fn first cap) w := fun _ _ _ _ => rfl
  go_enter Ybaf.func5, Ybaf.ntmps5
  go_wp2
  have k1 : Kept [] w ((w.alloc (.cells #[.float .f64 l] 25)).alloc (.cells (mk0 m) 41)) := ((Kept.refl [] w).alloc _).alloc _
  have f0 : Filled ((w.alloc (.cells #[.float .f64 l] 25)).alloc (.cells (mk0 m) 41)) (w.heap.size + 1) m 0 vs := Filled.zero (by have h := (MapKept.heap_alloc (w.alloc (.cells #[.float .f64 l] 25)) (.cells (mk0 m) 41)).1; rwa [World.size_alloc] at h)
  have hlo : ((w.alloc (.cells #[.float .f64 l] 25)).alloc (.cells (mk0 m) 41)).cell? ⟨w.heap.size, 0, none⟩ = some (.float .f64 l) := by simp [go_sem]
  go_loopw [34] (fun i wr => ∃ k : Nat, k ≤ m ∧ i = .int .i64 k ∧ Filled wr (w.heap.size + 1) m k vs ∧ Kept [w.heap.size + 1] ((w.alloc (.cells #[.float .f64 l] 25)).alloc (.cells (mk0 m) 41)) wr) (fun i _ => m - (intOf i).toNat)
  case atStart => exact ⟨0, Nat.zero_le _, rfl, f0, Kept.refl _ _⟩
  case round =>
    obtain ⟨k, hk, rfl, hfl, hkr⟩ := hrel
    have hbw : Below w.heap.size w wr := (k1.below (Nat.le_refl _) (by simp)).trans (hkr.below (by simp; omega) (by simp))
    have hvr := hv.kept hbw
    by_cases hkm : k < m
    · exfalso; omega
    · obtain rfl : k = m := by omega
      have hrow := hfl.row
      have lB : w.heap.size + 1 < wr.heap.size := hrow.lt
      have hlo2 : wr.cell? ⟨w.heap.size, 0, none⟩ = some (.float .f64 l) := hkr.cellSome hlo (by simp)
      have lB0 : w.heap.size < wr.heap.size := by omega
      clear f0 k1 hkr
      go_wp2_with fail
      refine (grid_lit_none' wr.heap.size (w.heap.size + 1) k k w.heap.size (wr.heap.size + 1 + 1 + 1 + 1 + 1 + 1) (wr.heap.size + 1) (wr.heap.size + 1 + 1 + 1 + 1) (wr.heap.size + 1 + 1) (wr.heap.size + 1 + 1 + 1) (a % 6) pos _ hm0 ?_ ?_ ?_ ?_).mono ?_
      · simp [go_sem]
      · simp [go_sem]
      · simp [go_sem]
      · simp [go_sem]
      rintro e w2 ⟨E, rfl, hE, hsz, hk2⟩
      have kw : Kept [] wr w2 := Kept.trans (by repeat (first | exact Kept.refl _ _ | apply Kept.alloc)) hk2
      have cP := hk2.cellSome (p := ⟨wr.heap.size, 8, none⟩) (v := .slice (some ⟨w.heap.size + 1, 0, none⟩) k k) (by simp [go_sem]) (by simp)
      have cC := hk2.cellSome (p := ⟨wr.heap.size + 1, 0, none⟩) (v := .int .i64 0) (by simp [go_sem]) (by simp)
      have cR := hk2.cellSome (p := ⟨wr.heap.size + 1 + 1 + 1 + 1 + 1, 0, none⟩) (v := .int .i64 (a % 6)) (by simp [go_sem]) (by simp)
      have cLo := kw.cellSome hlo2 (by simp)
      have hb2 : Below w.heap.size w w2 := hbw.trans (kw.below (by omega) (by simp))
      have hv2 := hvr.kept (kw.below (Nat.le_refl _) (by simp))
      have hr2 := hrow.kept kw (by simp)
      have hs2 : ∀ j, j < k → w2.cell? ⟨w.heap.size + 1, j, none⟩ = some (.iface 26 (.float .f64 (vs.getD j 0))) := fun j hj => hr2.cell j _ (nodes_get hj)
      have hbz : ((k : Int) == 0) = true := by simp; omega
      clear hk2 kw hvr hrow hr2 hfl hbw hv hlo2
      go_wp2
      go_quiet (fail)
      go_wp2_with (first | (go_at_call 13; refine (syntax_any _ _ _ (by exact hE)).mono ?_; rintro e w3 ⟨rfl, rfl⟩) | (go_at_call 14; refine (ceq_any _ _ _ _ _ vs _ hm (by exact hs2) (by exact hv2)).mono ?_; rintro e w3 ⟨rfl, q3, rfl⟩))
      go_ret
      exact ⟨rfl, below_drewN hb2 _⟩

set_option maxRecDepth 100000 in
set_option maxHeartbeats 1000000 in
theorem apply_t2z (va : Option Addr) (m vc l : Nat) (a pos : Int) (vs : List Nat) (w : World) (hm : m ≤ 1024) (hkc : m ≤ vc) (hv : Floats w va m vs) (ha0 : 0 ≤ a) (ha1 : a ≤ 255) (hz6 : (a % 6 == 0) = true) (m1 : Nat) (HM : Hid (m = m1 + 1)) (v : Nat) (Hv : Hid (vs.getD m1 0 = v)) (hg : geB v l = false) :
    Calls Ybaf.prog 5 #[.slice va m vc, .int .u8 a, .bool true, .float .f64 l, .int .i64 pos] w fun e w' => e = .returned (.bool true) ∧ Below w.heap.size w w' := by
  have hmk := fun w => make39 m hm w
  have hd : decide ((1024 : Int) < (m : Int)) = false := by simp; omega
  have hmf : ∀ (fn : Fn) (first cap : Array Value) (w : World), (Instr.makeFunc fn first cap).run Ybaf.prog w = .ok (.func fn first cap) w := fun _ _ _ _ => rfl
  go_enter Ybaf.func5, Ybaf.ntmps5
  go_wp2
  have k1 : Kept [] w ((w.alloc (.cells #[.float .f64 l] 25)).alloc (.cells (mk0 m) 41)) := ((Kept.refl [] w).alloc _).alloc _
  have f0 : Filled ((w.alloc (.cells #[.float .f64 l] 25)).alloc (.cells (mk0 m) 41)) (w.heap.size + 1) m 0 vs := Filled.zero (by have h := (MapKept.heap_alloc (w.alloc (.cells #[.float .f64 l] 25)) (.cells (mk0 m) 41)).1; rwa [World.size_alloc] at h)
  have hlo : ((w.alloc (.cells #[.float .f64 l] 25)).alloc (.cells (mk0 m) 41)).cell? ⟨w.heap.size, 0, none⟩ = some (.float .f64 l) := by simp [go_sem]
  go_loopw [34] (fun i wr => ∃ k : Nat, k ≤ m ∧ i = .int .i64 k ∧ Filled wr (w.heap.size + 1) m k vs ∧ Kept [w.heap.size + 1] ((w.alloc (.cells #[.float .f64 l] 25)).alloc (.cells (mk0 m) 41)) wr) (fun i _ => m - (intOf i).toNat)
  case atStart => exact ⟨0, Nat.zero_le _, rfl, f0, Kept.refl _ _⟩
  case round =>
    obtain ⟨k, hk, rfl, hfl, hkr⟩ := hrel
    have hbw : Below w.heap.size w wr := (k1.below (Nat.le_refl _) (by simp)).trans (hkr.below (by simp; omega) (by simp))
    have hvr := hv.kept hbw
    by_cases hkm : k < m
    · obtain ⟨V, off, rfl, hcv⟩ : ∃ V off, va = some ⟨V, off, none⟩ ∧ ∀ j, j < m → wr.cell? ⟨V, off + j, none⟩ = some (.float .f64 (vs.getD j 0)) := by
        rcases hvr with h | h
        · omega
        · exact h
      have hc := hcv k hkm
      obtain ⟨v0, hs, hsf⟩ := hfl.spot hkm
      have b1 : (0 : Int) ≤ (k : Int) := by omega
      have b2 : (k : Int) < (m : Int) := by omega
      have hst := hfl.step hkm
      have hkk : Kept [w.heap.size + 1] ((w.alloc (.cells #[.float .f64 l] 25)).alloc (.cells (mk0 m) 41)) (wr.setCell ⟨w.heap.size + 1, k, none⟩ (.iface 26 (.float .f64 (vs.getD k 0)))) := hkr.setCell (p := ⟨w.heap.size + 1, k, none⟩) (Or.inl (by simp)) _
      clear hcv hvr hfl hbw hv hkr
      go_wp2
      go_roundw
      case rel => exact ⟨k + 1, by omega, by go_num, hst, hkk⟩
      case measure => simp [intOf]; omega
    · obtain rfl : k = m := by omega
      have hrow := hfl.row
      have lB : w.heap.size + 1 < wr.heap.size := hrow.lt
      have hlo2 : wr.cell? ⟨w.heap.size, 0, none⟩ = some (.float .f64 l) := hkr.cellSome hlo (by simp)
      have lB0 : w.heap.size < wr.heap.size := by omega
      clear f0 k1 hkr
      go_wp2_with fail
      refine (grid_lit_bad' wr.heap.size (w.heap.size + 1) k m1 k w.heap.size (wr.heap.size + 1 + 1 + 1 + 1 + 1 + 1) (wr.heap.size + 1) (wr.heap.size + 1 + 1 + 1 + 1) (wr.heap.size + 1 + 1) (wr.heap.size + 1 + 1 + 1) l v (1) pos _ HM hm ?_ ?_ ?_ hg ?_ ?_ ?_).mono ?_
      · simp [go_sem]
      · exact (hrow.kept (ex := []) (by repeat (first | exact Kept.refl _ _ | apply Kept.alloc)) (by simp)).cell m1 _ (by rw [nodes_get (by have := HM.out; omega), Hv.out])
      · exact Kept.cellSome (ex := []) (w := wr) (by repeat (first | exact Kept.refl _ _ | apply Kept.alloc)) hlo2 (by simp)
      · simp [go_sem]
      · simp [go_sem]
      · simp [go_sem]
      rintro e w2 ⟨E, rfl, hE, hsz, hk2⟩
      have kw : Kept [] wr w2 := Kept.trans (by repeat (first | exact Kept.refl _ _ | apply Kept.alloc)) hk2
      have cP := hk2.cellSome (p := ⟨wr.heap.size, 8, none⟩) (v := .slice (some ⟨w.heap.size + 1, 0, none⟩) k k) (by simp [go_sem]) (by simp)
      have cC := hk2.cellSome (p := ⟨wr.heap.size + 1, 0, none⟩) (v := .int .i64 0) (by simp [go_sem]) (by simp)
      have cR := hk2.cellSome (p := ⟨wr.heap.size + 1 + 1 + 1 + 1 + 1, 0, none⟩) (v := .int .i64 (1)) (by simp [go_sem]) (by simp)
      have cLo := kw.cellSome hlo2 (by simp)
      have hb2 : Below w.heap.size w w2 := hbw.trans (kw.below (by omega) (by simp))
      have hv2 := hvr.kept (kw.below (Nat.le_refl _) (by simp))
      have hr2 := hrow.kept kw (by simp)
      have hs2 : ∀ j, j < k → w2.cell? ⟨w.heap.size + 1, j, none⟩ = some (.iface 26 (.float .f64 (vs.getD j 0))) := fun j hj => hr2.cell j _ (nodes_get hj)
      have hm1 := HM.out
      have hbz : ((k : Int) == 0) = false := by simp; omega
      obtain ⟨V, off, rfl, hcv⟩ : ∃ V off, va = some ⟨V, off, none⟩ ∧ ∀ j, j < k → w2.cell? ⟨V, off + j, none⟩ = some (.float .f64 (vs.getD j 0)) := by
        rcases hv2 with h | h
        · omega
        · exact h
      have hc1 := hcv m1 (by omega)
      rw [Hv.out] at hc1
      have e1 : ((k : Int) - 1).toNat = m1 := by omega
      have b1 : (0 : Int) ≤ (k : Int) - 1 := by omega
      have b2 : (k : Int) - 1 < (k : Int) := by omega
      have hwr : IntKind.i64.wrap ((k : Int) - 1) = (k : Int) - 1 := by rw [IntKind.wrap_i64]; omega
      have hc2 : w2.cell? ⟨V, off + ((k : Int) - 1).toNat, none⟩ = some (.float .f64 v) := by rw [e1]; exact hc1
      have hc3 : w2.cell? ⟨V, off + (k - 1), none⟩ = some (.float .f64 v) := by rw [show k - 1 = m1 by omega]; exact hc1
      have hg' := hg
      unfold geB at hg'
      rw [Bool.or_eq_false_iff] at hg'
      obtain ⟨hg1, hg2⟩ := hg'
      clear hk2 kw hvr hrow hr2 hfl hbw hv hlo2 hcv hm1 e1 hc1
      go_wp2
      go_quiet (fail)
      go_wp2_with (first | (go_at_call 13; refine (syntax_any _ _ _ (by exact hE)).mono ?_; rintro e w3 ⟨rfl, rfl⟩) | (go_at_call 14; refine (ceq_any _ _ _ _ _ vs _ hm (by exact hs2) (by exact hv2)).mono ?_; rintro e w3 ⟨rfl, q3, rfl⟩))
      go_ret
      exact ⟨rfl, below_drewN hb2 _⟩

set_option maxRecDepth 100000 in
set_option maxHeartbeats 1000000 in
theorem apply_t2p (va : Option Addr) (m vc l : Nat) (a pos : Int) (vs : List Nat) (w : World) (hm : m ≤ 1024) (hkc : m ≤ vc) (hv : Floats w va m vs) (ha0 : 0 ≤ a) (ha1 : a ≤ 255) (hz6 : (a % 6 == 0) = false) (m1 : Nat) (HM : Hid (m = m1 + 1)) (v : Nat) (Hv : Hid (vs.getD m1 0 = v)) (hg : geB v l = false) :
    Calls Ybaf.prog 5 #[.slice va m vc, .int .u8 a, .bool true, .float .f64 l, .int .i64 pos] w fun e w' => e = .returned (.bool true) ∧ Below w.heap.size w w' := by
  have hmk := fun w => make39 m hm w
  have hd : decide ((1024 : Int) < (m : Int)) = false := by simp; omega
  have hmf : ∀ (fn : Fn) (first cap : Array Value) (w : World), (Instr.makeFunc fn first cap).run Ybaf.prog w = .ok (.func fn first cap) w := fun _ _ _ _ => rfl
  go_enter Ybaf.func5, Ybaf.ntmps5
  go_wp2
  have k1 : Kept [] w ((w.alloc (.cells #[.float .f64 l] 25)).alloc (.cells (mk0 m) 41)) := ((Kept.refl [] w).alloc _).alloc _
  have f0 : Filled ((w.alloc (.cells #[.float .f64 l] 25)).alloc (.cells (mk0 m) 41)) (w.heap.size + 1) m 0 vs := Filled.zero (by have h := (MapKept.heap_alloc (w.alloc (.cells #[.float .f64 l] 25)) (.cells (mk0 m) 41)).1; rwa [World.size_alloc] at h)
  have hlo : ((w.alloc (.cells #[.float .f64 l] 25)).alloc (.cells (mk0 m) 41)).cell? ⟨w.heap.size, 0, none⟩ = some (.float .f64 l) := by simp [go_sem]
  go_loopw [34] (fun i wr => ∃ k : Nat, k ≤ m ∧ i = .int .i64 k ∧ Filled wr (w.heap.size + 1) m k vs ∧ Kept [w.heap.size + 1] ((w.alloc (.cells #[.float .f64 l] 25)).alloc (.cells (mk0 m) 41)) wr) (fun i _ => m - (intOf i).toNat)
  case atStart => exact ⟨0, Nat.zero_le _, rfl, f0, Kept.refl _ _⟩
  case round =>
    obtain ⟨k, hk, rfl, hfl, hkr⟩ := hrel
    have hbw : Below w.heap.size w wr := (k1.below (Nat.le_refl _) (by simp)).trans (hkr.below (by simp; omega) (by simp))
    have hvr := hv.kept hbw
    by_cases hkm : k < m
    · obtain ⟨V, off, rfl, hcv⟩ : ∃ V off, va = some ⟨V, off, none⟩ ∧ ∀ j, j < m → wr.cell? ⟨V, off + j, none⟩ = some (.float .f64 (vs.getD j 0)) := by
        rcases hvr with h | h
        · omega
        · exact h
      have hc := hcv k hkm
      obtain ⟨v0, hs, hsf⟩ := hfl.spot hkm
      have b1 : (0 : Int) ≤ (k : Int) := by omega
      have b2 : (k : Int) < (m : Int) := by omega
      have hst := hfl.step hkm
      have hkk : Kept [w.heap.size + 1] ((w.alloc (.cells #[.float .f64 l] 25)).alloc (.cells (mk0 m) 41)) (wr.setCell ⟨w.heap.size + 1, k, none⟩ (.iface 26 (.float .f64 (vs.getD k 0)))) := hkr.setCell (p := ⟨w.heap.size + 1, k, none⟩) (Or.inl (by simp)) _
      clear hcv hvr hfl hbw hv hkr
      go_wp2
      go_roundw
      case rel => exact ⟨k + 1, by omega, by go_num, hst, hkk⟩
      case measure => simp [intOf]; omega
    · obtain rfl : k = m := by omega
      have hrow := hfl.row
      have lB : w.heap.size + 1 < wr.heap.size := hrow.lt
      have hlo2 : wr.cell? ⟨w.heap.size, 0, none⟩ = some (.float .f64 l) := hkr.cellSome hlo (by simp)
      have lB0 : w.heap.size < wr.heap.size := by omega
      clear f0 k1 hkr
      go_wp2_with fail
      refine (grid_lit_bad' wr.heap.size (w.heap.size + 1) k m1 k w.heap.size (wr.heap.size + 1 + 1 + 1 + 1 + 1 + 1) (wr.heap.size + 1) (wr.heap.size + 1 + 1 + 1 + 1) (wr.heap.size + 1 + 1) (wr.heap.size + 1 + 1 + 1) l v (a % 6) pos _ HM hm ?_ ?_ ?_ hg ?_ ?_ ?_).mono ?_
      · simp [go_sem]
      · exact (hrow.kept (ex := []) (by repeat (first | exact Kept.refl _ _ | apply Kept.alloc)) (by simp)).cell m1 _ (by rw [nodes_get (by have := HM.out; omega), Hv.out])
      · exact Kept.cellSome (ex := []) (w := wr) (by repeat (first | exact Kept.refl _ _ | apply Kept.alloc)) hlo2 (by simp)
      · simp [go_sem]
      · simp [go_sem]
      · simp [go_sem]
      rintro e w2 ⟨E, rfl, hE, hsz, hk2⟩
      have kw : Kept [] wr w2 := Kept.trans (by repeat (first | exact Kept.refl _ _ | apply Kept.alloc)) hk2
      have cP := hk2.cellSome (p := ⟨wr.heap.size, 8, none⟩) (v := .slice (some ⟨w.heap.size + 1, 0, none⟩) k k) (by simp [go_sem]) (by simp)
      have cC := hk2.cellSome (p := ⟨wr.heap.size + 1, 0, none⟩) (v := .int .i64 0) (by simp [go_sem]) (by simp)
      have cR := hk2.cellSome (p := ⟨wr.heap.size + 1 + 1 + 1 + 1 + 1, 0, none⟩) (v := .int .i64 (a % 6)) (by simp [go_sem]) (by simp)
      have cLo := kw.cellSome hlo2 (by simp)
      have hb2 : Below w.heap.size w w2 := hbw.trans (kw.below (by omega) (by simp))
      have hv2 := hvr.kept (kw.below (Nat.le_refl _) (by simp))
      have hr2 := hrow.kept kw (by simp)
      have hs2 : ∀ j, j < k → w2.cell? ⟨w.heap.size + 1, j, none⟩ = some (.iface 26 (.float .f64 (vs.getD j 0))) := fun j hj => hr2.cell j _ (nodes_get hj)
      have hm1 := HM.out
      have hbz : ((k : Int) == 0) = false := by simp; omega
      obtain ⟨V, off, rfl, hcv⟩ : ∃ V off, va = some ⟨V, off, none⟩ ∧ ∀ j, j < k → w2.cell? ⟨V, off + j, none⟩ = some (.float .f64 (vs.getD j 0)) := by
        rcases hv2 with h | h
        · omega
        · exact h
      have hc1 := hcv m1 (by omega)
      rw [Hv.out] at hc1
      have e1 : ((k : Int) - 1).toNat = m1 := by omega
      have b1 : (0 : Int) ≤ (k : Int) - 1 := by omega
      have b2 : (k : Int) - 1 < (k : Int) := by omega
      have hwr : IntKind.i64.wrap ((k : Int) - 1) = (k : Int) - 1 := by rw [IntKind.wrap_i64]; omega
      have hc2 : w2.cell? ⟨V, off + ((k : Int) - 1).toNat, none⟩ = some (.float .f64 v) := by rw [e1]; exact hc1
      have hc3 : w2.cell? ⟨V, off + (k - 1), none⟩ = some (.float .f64 v) := by rw [show k - 1 = m1 by omega]; exact hc1
      have hg' := hg
      unfold geB at hg'
      rw [Bool.or_eq_false_iff] at hg'
      obtain ⟨hg1, hg2⟩ := hg'
      clear hk2 kw hvr hrow hr2 hfl hbw hv hlo2 hcv hm1 e1 hc1
      go_wp2
      go_quiet (fail)
      go_wp2_with (first | (go_at_call 13; refine (syntax_any _ _ _ (by exact hE)).mono ?_; rintro e w3 ⟨rfl, rfl⟩) | (go_at_call 14; refine (ceq_any _ _ _ _ _ vs _ hm (by exact hs2) (by exact hv2)).mono ?_; rintro e w3 ⟨rfl, q3, rfl⟩))
      go_ret
      exact ⟨rfl, below_drewN hb2 _⟩

end Go.Proofs.YbulkcobyFmt
