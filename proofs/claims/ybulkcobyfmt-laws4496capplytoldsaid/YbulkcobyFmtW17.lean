import Derived.Test.YbulkcobyFmtW16
namespace Go.Proofs.YbulkcobyFmt
open Go.RowKit Go.Extern.Stop Go.Stop Go.Extern

theorem same_drew {P : Program} {f : FuncId} {args : Array Value} {w : World} {v : Value}
    (h : Calls P f args w fun e w' => e = .returned v ∧ w' = w) : Calls P f args w fun e w' => e = .returned v ∧ ∃ m, w' = w.drewN m :=
  h.mono fun _ _ ⟨he, hm⟩ => ⟨he, 0, hm⟩

set_option maxRecDepth 100000 in
set_option maxHeartbeats 1000000 in
theorem apply_t3pg (va : Option Addr) (m vc l : Nat) (a pos : Int) (vs : List Nat) (w : World) (hm : m ≤ 1024) (hkc : m ≤ vc) (hv : Floats w va m vs) (ha0 : 0 ≤ a) (ha1 : a ≤ 255) (hz6 : (a % 6 == 0) = false) (m1 : Nat) (HM : Hid (m = m1 + 1)) (v : Nat) (Hv : Hid (vs.getD m1 0 = v)) (ho : FloatKind.f64.format.order v l = some .gt) (hg : geB v l = true) (hlt : (m1 : Int) < a % 6 - 1) (ha5 : a % 6 ≤ 5) :
    Calls Ybaf.prog 5 #[.slice va m vc, .int .u8 a, .bool true, .float .f64 l, .int .i64 pos] w fun e w' => e = .returned (.bool true) ∧ Below w.heap.size w w' := by
  have hmk := fun w => make39 m hm w
  have hd : decide ((1024 : Int) < (m : Int)) = false := by simp; omega
  have hmf : ∀ (fn : Fn) (first cap : Array Value) (w : World), (Instr.makeFunc fn first cap).run Ybaf.prog w = .ok (.func fn first cap) w := fun _ _ _ _ => rfl
  go_enter Ybaf.func5, Ybaf.ntmps5
  go_wp2
  have k1 : Kept [] w ((w.alloc (.cells #[.float .f64 l] 25)).alloc (.cells (mk0 m) 41)) := ((Kept.refl [] w).alloc _).alloc _
  have f0 : Filled ((w.alloc (.cells #[.float .f64 l] 25)).alloc (.cells (mk0 m) 41)) (w.heap.size + 1) m 0 vs := Filled.zero (by have h := (MapKept.heap_alloc (w.alloc (.cells #[.float .f64 l] 25)) (.cells (mk0 m) 41)).1; rwa [World.size_alloc] at h)
  have hlo : ((w.alloc (.cells #[.float .f64 l] 25)).alloc (.cells (mk0 m) 41)).cell? ⟨w.heap.size, 0, none⟩ = some (.float .f64 l) := by simp [go_sem]
  go_loopw [34] (fun i wr => ∃ k : Nat, k ≤ m ∧ i = .int .i64 k ∧ Filled wr (w.heap.size + 1) m k vs ∧ Kept [w.heap.size + 1] ((w.alloc (.cells #[.float .f64 l] 25)).alloc (.cells (mk0 m) 41)) wr) (fun i _ => m - (intOf i).toNat)
  case atStart => exact ⟨0, Nat.zero_le _, rfl, f0, Kept.refl _ _⟩
  case round =>
    obtain ⟨k, hk, rfl, hfl, hkr⟩ := hrel
    have hbw : Below w.heap.size w wr := (k1.below (Nat.le_refl _) (by simp)).trans (hkr.below (by simp; omega) (by simp))
    have hvr := hv.kept hbw
    by_cases hkm : k < m
    · obtain ⟨V, off, rfl, hcv⟩ : ∃ V off, va = some ⟨V, off, none⟩ ∧ ∀ j, j < m → wr.cell? ⟨V, off + j, none⟩ = some (.float .f64 (vs.getD j 0)) := by
        rcases hvr with h | h
        · omega
        · exact h
      have hc := hcv k hkm
      obtain ⟨v0, hs, hsf⟩ := hfl.spot hkm
      have b1 : (0 : Int) ≤ (k : Int) := by omega
      have b2 : (k : Int) < (m : Int) := by omega
      have hst := hfl.step hkm
      have hkk : Kept [w.heap.size + 1] ((w.alloc (.cells #[.float .f64 l] 25)).alloc (.cells (mk0 m) 41)) (wr.setCell ⟨w.heap.size + 1, k, none⟩ (.iface 26 (.float .f64 (vs.getD k 0)))) := hkr.setCell (p := ⟨w.heap.size + 1, k, none⟩) (Or.inl (by simp)) _
      clear hcv hvr hfl hbw hv hkr
      go_wp2
      go_roundw
      case rel => exact ⟨k + 1, by omega, by go_num, hst, hkk⟩
      case measure => simp [intOf]; omega
    · obtain rfl : k = m := by omega
      have hrow := hfl.row
      have lB : w.heap.size + 1 < wr.heap.size := hrow.lt
      have hlo2 : wr.cell? ⟨w.heap.size, 0, none⟩ = some (.float .f64 l) := hkr.cellSome hlo (by simp)
      have lB0 : w.heap.size < wr.heap.size := by omega
      clear f0 k1 hkr
      go_wp2_with fail
      refine (grid_last_err' wr.heap.size (w.heap.size + 1) k m1 k w.heap.size (wr.heap.size + 1 + 1 + 1 + 1 + 1 + 1) (wr.heap.size + 1) (wr.heap.size + 1 + 1 + 1 + 1) (wr.heap.size + 1 + 1) (wr.heap.size + 1 + 1 + 1) l v (a % 6) pos _ HM hm (Nat.le_refl _) ?_ ?_ ?_ ?_ hg hlt ha5 ?_ ?_ ?_).mono ?_
      · simp [go_sem]
      · simp [go_sem]
      · exact (hrow.kept (ex := []) (by repeat (first | exact Kept.refl _ _ | apply Kept.alloc)) (by simp)).cell m1 _ (by rw [nodes_get (by have := HM.out; omega), Hv.out])
      · exact Kept.cellSome (ex := []) (w := wr) (by repeat (first | exact Kept.refl _ _ | apply Kept.alloc)) hlo2 (by simp)
      · simp [go_sem]
      · simp [go_sem]
      · simp [go_sem]
      rintro e w2 ⟨E, rfl, hE, hsz, hk2, cP⟩
      have kw : Kept [wr.heap.size] wr w2 := Kept.trans (by repeat (first | exact Kept.refl _ _ | apply Kept.alloc)) hk2
      have cC := hk2.cellSome (p := ⟨wr.heap.size + 1, 0, none⟩) (v := .int .i64 0) (by simp [go_sem]) (by simp)
      have cR := hk2.cellSome (p := ⟨wr.heap.size + 1 + 1 + 1 + 1 + 1, 0, none⟩) (v := .int .i64 (a % 6)) (by simp [go_sem]) (by simp; omega)
      have cLo := kw.cellSome hlo2 (by simp; omega)
      have hb2 : Below w.heap.size w w2 := hbw.trans (kw.below (by omega) (by simp; omega))
      have hv2 := hv.kept hb2
      have hr2 := hrow.kept kw (by simp; omega)
      have hs2 : ∀ j, j < m1 → w2.cell? ⟨w.heap.size + 1, j, none⟩ = some (.iface 26 (.float .f64 (vs.getD j 0))) := fun j hj => hr2.cell j _ (nodes_get (by have := HM.out; omega))
      have hm1 := HM.out
      have hbz : ((k : Int) == 0) = false := by simp; omega
      obtain ⟨V, off, rfl, hcv⟩ : ∃ V off, va = some ⟨V, off, none⟩ ∧ ∀ j, j < k → w2.cell? ⟨V, off + j, none⟩ = some (.float .f64 (vs.getD j 0)) := by
        rcases hv2 with h | h
        · omega
        · exact h
      have hc1 := hcv m1 (by omega)
      rw [Hv.out] at hc1
      have e1 : ((k : Int) - 1).toNat = m1 := by omega
      have b1 : (0 : Int) ≤ (k : Int) - 1 := by omega
      have b2 : (k : Int) - 1 < (k : Int) := by omega
      have hwr : IntKind.i64.wrap ((k : Int) - 1) = (k : Int) - 1 := by rw [IntKind.wrap_i64]; omega
      have hc2 : w2.cell? ⟨V, off + ((k : Int) - 1).toNat, none⟩ = some (.float .f64 v) := by rw [e1]; exact hc1
      have hc3 : w2.cell? ⟨V, off + (k - 1), none⟩ = some (.float .f64 v) := by rw [show k - 1 = m1 by omega]; exact hc1
      have hv3 : Floats w2 (some ⟨V, off, none⟩) m1 vs := hv2.low (by omega)
      have hbk : ((k : Int) - 1) = (m1 : Int) := by omega
      have hsl : ∀ w, (Instr.slice 38 (.slice (some ⟨V, off, none⟩) k vc) none (some (.int .i64 ((k : Int) - 1))) none).run Ybaf.prog w = .ok (.slice (some ⟨V, off, none⟩) m1 vc) w := fun w => by
        rw [hbk]; exact slice38_high w _ k vc m1 (by omega)
      have hlt2 : (k : Int) - 1 < a % 6 - 1 := by omega
      clear hk2 kw hvr hrow hr2 hfl hbw hv hlo2 hcv hm1 e1 hc1 hbk hv2 hg
      go_wp2
      go_quiet (fail)
      go_wp2
      go_quiet ((first | (go_at_call 13; exact quiet_add (same_drew (syntax_any _ _ _ (by exact hE)))) | (go_at_call 14; exact quiet_add (ceq_any _ _ _ _ _ vs _ (by omega) (by exact hs2) (by exact hv3)))))
      go_wp2
      go_ret
      exact ⟨rfl, below_drewN (below_drewN hb2 _) _⟩

set_option maxRecDepth 100000 in
set_option maxHeartbeats 1000000 in
theorem apply_t3pe (va : Option Addr) (m vc l : Nat) (a pos : Int) (vs : List Nat) (w : World) (hm : m ≤ 1024) (hkc : m ≤ vc) (hv : Floats w va m vs) (ha0 : 0 ≤ a) (ha1 : a ≤ 255) (hz6 : (a % 6 == 0) = false) (m1 : Nat) (HM : Hid (m = m1 + 1)) (v : Nat) (Hv : Hid (vs.getD m1 0 = v)) (ho : FloatKind.f64.format.order v l = some .eq) (hg : geB v l = true) (hlt : (m1 : Int) < a % 6 - 1) (ha5 : a % 6 ≤ 5) :
    Calls Ybaf.prog 5 #[.slice va m vc, .int .u8 a, .bool true, .float .f64 l, .int .i64 pos] w fun e w' => e = .returned (.bool true) ∧ Below w.heap.size w w' := by
  have hmk := fun w => make39 m hm w
  have hd : decide ((1024 : Int) < (m : Int)) = false := by simp; omega
  have hmf : ∀ (fn : Fn) (first cap : Array Value) (w : World), (Instr.makeFunc fn first cap).run Ybaf.prog w = .ok (.func fn first cap) w := fun _ _ _ _ => rfl
  go_enter Ybaf.func5, Ybaf.ntmps5
  go_wp2
  have k1 : Kept [] w ((w.alloc (.cells #[.float .f64 l] 25)).alloc (.cells (mk0 m) 41)) := ((Kept.refl [] w).alloc _).alloc _
  have f0 : Filled ((w.alloc (.cells #[.float .f64 l] 25)).alloc (.cells (mk0 m) 41)) (w.heap.size + 1) m 0 vs := Filled.zero (by have h := (MapKept.heap_alloc (w.alloc (.cells #[.float .f64 l] 25)) (.cells (mk0 m) 41)).1; rwa [World.size_alloc] at h)
  have hlo : ((w.alloc (.cells #[.float .f64 l] 25)).alloc (.cells (mk0 m) 41)).cell? ⟨w.heap.size, 0, none⟩ = some (.float .f64 l) := by simp [go_sem]
  go_loopw [34] (fun i wr => ∃ k : Nat, k ≤ m ∧ i = .int .i64 k ∧ Filled wr (w.heap.size + 1) m k vs ∧ Kept [w.heap.size + 1] ((w.alloc (.cells #[.float .f64 l] 25)).alloc (.cells (mk0 m) 41)) wr) (fun i _ => m - (intOf i).toNat)
  case atStart => exact ⟨0, Nat.zero_le _, rfl, f0, Kept.refl _ _⟩
  case round =>
    obtain ⟨k, hk, rfl, hfl, hkr⟩ := hrel
    have hbw : Below w.heap.size w wr := (k1.below (Nat.le_refl _) (by simp)).trans (hkr.below (by simp; omega) (by simp))
    have hvr := hv.kept hbw
    by_cases hkm : k < m
    · obtain ⟨V, off, rfl, hcv⟩ : ∃ V off, va = some ⟨V, off, none⟩ ∧ ∀ j, j < m → wr.cell? ⟨V, off + j, none⟩ = some (.float .f64 (vs.getD j 0)) := by
        rcases hvr with h | h
        · omega
        · exact h
      have hc := hcv k hkm
      obtain ⟨v0, hs, hsf⟩ := hfl.spot hkm
      have b1 : (0 : Int) ≤ (k : Int) := by omega
      have b2 : (k : Int) < (m : Int) := by omega
      have hst := hfl.step hkm
      have hkk : Kept [w.heap.size + 1] ((w.alloc (.cells #[.float .f64 l] 25)).alloc (.cells (mk0 m) 41)) (wr.setCell ⟨w.heap.size + 1, k, none⟩ (.iface 26 (.float .f64 (vs.getD k 0)))) := hkr.setCell (p := ⟨w.heap.size + 1, k, none⟩) (Or.inl (by simp)) _
      clear hcv hvr hfl hbw hv hkr
      go_wp2
      go_roundw
      case rel => exact ⟨k + 1, by omega, by go_num, hst, hkk⟩
      case measure => simp [intOf]; omega
    · obtain rfl : k = m := by omega
      have hrow := hfl.row
      have lB : w.heap.size + 1 < wr.heap.size := hrow.lt
      have hlo2 : wr.cell? ⟨w.heap.size, 0, none⟩ = some (.float .f64 l) := hkr.cellSome hlo (by simp)
      have lB0 : w.heap.size < wr.heap.size := by omega
      clear f0 k1 hkr
      go_wp2_with fail
      refine (grid_last_err' wr.heap.size (w.heap.size + 1) k m1 k w.heap.size (wr.heap.size + 1 + 1 + 1 + 1 + 1 + 1) (wr.heap.size + 1) (wr.heap.size + 1 + 1 + 1 + 1) (wr.heap.size + 1 + 1) (wr.heap.size + 1 + 1 + 1) l v (a % 6) pos _ HM hm (Nat.le_refl _) ?_ ?_ ?_ ?_ hg hlt ha5 ?_ ?_ ?_).mono ?_
      · simp [go_sem]
      · simp [go_sem]
      · exact (hrow.kept (ex := []) (by repeat (first | exact Kept.refl _ _ | apply Kept.alloc)) (by simp)).cell m1 _ (by rw [nodes_get (by have := HM.out; omega), Hv.out])
      · exact Kept.cellSome (ex := []) (w := wr) (by repeat (first | exact Kept.refl _ _ | apply Kept.alloc)) hlo2 (by simp)
      · simp [go_sem]
      · simp [go_sem]
      · simp [go_sem]
      rintro e w2 ⟨E, rfl, hE, hsz, hk2, cP⟩
      have kw : Kept [wr.heap.size] wr w2 := Kept.trans (by repeat (first | exact Kept.refl _ _ | apply Kept.alloc)) hk2
      have cC := hk2.cellSome (p := ⟨wr.heap.size + 1, 0, none⟩) (v := .int .i64 0) (by simp [go_sem]) (by simp)
      have cR := hk2.cellSome (p := ⟨wr.heap.size + 1 + 1 + 1 + 1 + 1, 0, none⟩) (v := .int .i64 (a % 6)) (by simp [go_sem]) (by simp; omega)
      have cLo := kw.cellSome hlo2 (by simp; omega)
      have hb2 : Below w.heap.size w w2 := hbw.trans (kw.below (by omega) (by simp; omega))
      have hv2 := hv.kept hb2
      have hr2 := hrow.kept kw (by simp; omega)
      have hs2 : ∀ j, j < m1 → w2.cell? ⟨w.heap.size + 1, j, none⟩ = some (.iface 26 (.float .f64 (vs.getD j 0))) := fun j hj => hr2.cell j _ (nodes_get (by have := HM.out; omega))
      have hm1 := HM.out
      have hbz : ((k : Int) == 0) = false := by simp; omega
      obtain ⟨V, off, rfl, hcv⟩ : ∃ V off, va = some ⟨V, off, none⟩ ∧ ∀ j, j < k → w2.cell? ⟨V, off + j, none⟩ = some (.float .f64 (vs.getD j 0)) := by
        rcases hv2 with h | h
        · omega
        · exact h
      have hc1 := hcv m1 (by omega)
      rw [Hv.out] at hc1
      have e1 : ((k : Int) - 1).toNat = m1 := by omega
      have b1 : (0 : Int) ≤ (k : Int) - 1 := by omega
      have b2 : (k : Int) - 1 < (k : Int) := by omega
      have hwr : IntKind.i64.wrap ((k : Int) - 1) = (k : Int) - 1 := by rw [IntKind.wrap_i64]; omega
      have hc2 : w2.cell? ⟨V, off + ((k : Int) - 1).toNat, none⟩ = some (.float .f64 v) := by rw [e1]; exact hc1
      have hc3 : w2.cell? ⟨V, off + (k - 1), none⟩ = some (.float .f64 v) := by rw [show k - 1 = m1 by omega]; exact hc1
      have hv3 : Floats w2 (some ⟨V, off, none⟩) m1 vs := hv2.low (by omega)
      have hbk : ((k : Int) - 1) = (m1 : Int) := by omega
      have hsl : ∀ w, (Instr.slice 38 (.slice (some ⟨V, off, none⟩) k vc) none (some (.int .i64 ((k : Int) - 1))) none).run Ybaf.prog w = .ok (.slice (some ⟨V, off, none⟩) m1 vc) w := fun w => by
        rw [hbk]; exact slice38_high w _ k vc m1 (by omega)
      have hlt2 : (k : Int) - 1 < a % 6 - 1 := by omega
      clear hk2 kw hvr hrow hr2 hfl hbw hv hlo2 hcv hm1 e1 hc1 hbk hv2 hg
      go_wp2
      go_quiet (fail)
      go_wp2
      go_quiet ((first | (go_at_call 13; exact quiet_add (same_drew (syntax_any _ _ _ (by exact hE)))) | (go_at_call 14; exact quiet_add (ceq_any _ _ _ _ _ vs _ (by omega) (by exact hs2) (by exact hv3)))))
      go_wp2
      go_ret
      exact ⟨rfl, below_drewN (below_drewN hb2 _) _⟩

end Go.Proofs.YbulkcobyFmt
