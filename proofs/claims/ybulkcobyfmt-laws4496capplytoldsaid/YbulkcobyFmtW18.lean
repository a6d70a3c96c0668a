import Derived.Test.YbulkcobyFmtW17
namespace Go.Proofs.YbulkcobyFmt
open Go.RowKit Go.Extern.Stop Go.Stop Go.Extern

theorem grid_last_ok' (P S M m n c L LB C GB GA GL lo v : Nat) (k pos : Int) (xs : List Value) (vB vA vL : Value) (w : World) (hM : Hid (M = m + 1)) (hc : w.cell? ⟨P, 8, none⟩ = some (.slice (some ⟨S, 0, none⟩) M c)) (hf : w.frozen? ⟨P, 8, none⟩ = false) (hnm : n ≤ m) (hmc : M ≤ c) (hm : M ≤ 1024)
    (hl : xs.length = M) (hrow : Row w S xs) (h1 : ∀ u ∈ xs, u.oneCell' = true) (hv : w.cell? ⟨S, m, none⟩ = some (.iface 26 (.float .f64 v))) (hL0 : w.cell? ⟨L, 0, none⟩ = some (.float .f64 lo)) (hgt : geB v lo = true) (hk : Hid (k - 1 = (n : Int))) (hk5 : k ≤ 5)
    (hC : One w C (.int .i64 0)) (hB : One w GB vB) (hA : One w GA vA) (hL : One w GL vL) (hne : [P, S, C, GB, GA, GL].Nodup) (hl0 : w.cell? ⟨LB, 0, none⟩ = some (.string ⟨#[120]⟩)) (hl1 : w.cell? ⟨LB, 1, none⟩ = some (.string ⟨#[121]⟩)) (hl2 : w.cell? ⟨LB, 2, none⟩ = some (.func (Fn.func 11) #[] #[.pointer (some ⟨L, 0, none⟩)])) :
    Calls Ybaf.prog 12 #[.pointer (some ⟨P, 0, none⟩), .string ⟨#[79, 80]⟩, .agg #[.int .i64 k, .pointer (some ⟨LB, 0, none⟩), .func (Fn.func 9) #[] #[.pointer (some ⟨C, 0, none⟩), .pointer (some ⟨GB, 0, none⟩), .pointer (some ⟨GA, 0, none⟩), .pointer (some ⟨GL, 0, none⟩)]], .int .i64 pos] w fun e w' => e = .returned .nilIface ∧ GridOk w w' P S n (m - n) C GB GA GL v ((xs.take m).drop (m - n)) xs := by
  obtain rfl : M = m + 1 := hM
  exact grid_last_ok P S m n c L LB C GB GA GL lo v k pos xs vB vA vL w hc hf hnm hmc hm hl hrow h1 hv hL0 hgt hk.out hk5 hC hB hA hL hne hl0 hl1 hl2

theorem nodes_take (vs : List Nat) {m k : Nat} (h : m ≤ k) : (nodes vs k).take m = nodes vs m := by
  apply List.ext_getElem?
  intro j
  rw [List.getElem?_take]
  by_cases hj : j < m
  · rw [if_pos hj, nodes_get hj, nodes_get (by omega)]
  · rw [if_neg hj, List.getElem?_eq_none (by rw [nodes_length]; omega)]

set_option maxRecDepth 100000 in
set_option maxHeartbeats 1000000 in
theorem apply_t4pg (va : Option Addr) (m vc l : Nat) (a pos : Int) (vs : List Nat) (w : World) (hm : m ≤ 1024) (hkc : m ≤ vc) (hv : Floats w va m vs) (ha0 : 0 ≤ a) (ha1 : a ≤ 255) (hz6 : (a % 6 == 0) = false) (m1 : Nat) (HM : Hid (m = m1 + 1)) (v : Nat) (Hv : Hid (vs.getD m1 0 = v)) (ho : FloatKind.f64.format.order v l = some .gt) (hg : geB v l = true) (n : Nat) (Hn : Hid (a % 6 - 1 = (n : Int))) (hnm : n ≤ m1) (ha5 : (a % 6 : Int) ≤ 5) (ha6 : (1 : Int) ≤ a % 6) :
    Calls Ybaf.prog 5 #[.slice va m vc, .int .u8 a, .bool true, .float .f64 l, .int .i64 pos] w fun e w' => e = .returned (.bool true) ∧ Below w.heap.size w w' := by
  have hmk := fun w => make39 m hm w
  have hd : decide ((1024 : Int) < (m : Int)) = false := by simp; omega
  have hmf : ∀ (fn : Fn) (first cap : Array Value) (w : World), (Instr.makeFunc fn first cap).run Ybaf.prog w = .ok (.func fn first cap) w := fun _ _ _ _ => rfl
  go_enter Ybaf.func5, Ybaf.ntmps5
  go_wp2
  have k1 : Kept [] w ((w.alloc (.cells #[.float .f64 l] 25)).alloc (.cells (mk0 m) 41)) := ((Kept.refl [] w).alloc _).alloc _
  have f0 : Filled ((w.alloc (.cells #[.float .f64 l] 25)).alloc (.cells (mk0 m) 41)) (w.heap.size + 1) m 0 vs := Filled.zero (by have h := (MapKept.heap_alloc (w.alloc (.cells #[.float .f64 l] 25)) (.cells (mk0 m) 41)).1; rwa [World.size_alloc] at h)
  have hlo : ((w.alloc (.cells #[.float .f64 l] 25)).alloc (.cells (mk0 m) 41)).cell? ⟨w.heap.size, 0, none⟩ = some (.float .f64 l) := by simp [go_sem]
  go_loopw [34] (fun i wr => ∃ k : Nat, k ≤ m ∧ i = .int .i64 k ∧ Filled wr (w.heap.size + 1) m k vs ∧ Kept [w.heap.size + 1] ((w.alloc (.cells #[.float .f64 l] 25)).alloc (.cells (mk0 m) 41)) wr) (fun i _ => m - (intOf i).toNat)
  case atStart => exact ⟨0, Nat.zero_le _, rfl, f0, Kept.refl _ _⟩
  case round =>
    obtain ⟨k, hk, rfl, hfl, hkr⟩ := hrel
    have hbw : Below w.heap.size w wr := (k1.below (Nat.le_refl _) (by simp)).trans (hkr.below (by simp; omega) (by simp))
    have hvr := hv.kept hbw
    by_cases hkm : k < m
    · obtain ⟨V, off, rfl, hcv⟩ : ∃ V off, va = some ⟨V, off, none⟩ ∧ ∀ j, j < m → wr.cell? ⟨V, off + j, none⟩ = some (.float .f64 (vs.getD j 0)) := by
        rcases hvr with h | h
        · omega
        · exact h
      have hc := hcv k hkm
      obtain ⟨v0, hs, hsf⟩ := hfl.spot hkm
      have b1 : (0 : Int) ≤ (k : Int) := by omega
      have b2 : (k : Int) < (m : Int) := by omega
      have hst := hfl.step hkm
      have hkk : Kept [w.heap.size + 1] ((w.alloc (.cells #[.float .f64 l] 25)).alloc (.cells (mk0 m) 41)) (wr.setCell ⟨w.heap.size + 1, k, none⟩ (.iface 26 (.float .f64 (vs.getD k 0)))) := hkr.setCell (p := ⟨w.heap.size + 1, k, none⟩) (Or.inl (by simp)) _
      clear hcv hvr hfl hbw hv hkr
      go_wp2
      go_roundw
      case rel => exact ⟨k + 1, by omega, by go_num, hst, hkk⟩
      case measure => simp [intOf]; omega
    · obtain rfl : k = m := by omega
      have hrow := hfl.row
      have lB : w.heap.size + 1 < wr.heap.size := hrow.lt
      have hlo2 : wr.cell? ⟨w.heap.size, 0, none⟩ = some (.float .f64 l) := hkr.cellSome hlo (by simp)
      have lB0 : w.heap.size < wr.heap.size := by omega
      clear f0 k1 hkr
      go_wp2_with fail
      refine (grid_last_ok' wr.heap.size (w.heap.size + 1) k m1 n k w.heap.size (wr.heap.size + 1 + 1 + 1 + 1 + 1 + 1) (wr.heap.size + 1) (wr.heap.size + 1 + 1 + 1 + 1) (wr.heap.size + 1 + 1) (wr.heap.size + 1 + 1 + 1) l v (a % 6) pos (nodes vs k) (.pointer none) (.slice none 0 0) (.float .f64 0) _ HM ?_ ?_ hnm (Nat.le_refl _) hm (nodes_length vs k) (hrow.kept (ex := []) (by repeat (first | exact Kept.refl _ _ | apply Kept.alloc)) (by simp)) nodes_one ?_ ?_ hg Hn ha5 ⟨?_, ?_⟩ ⟨?_, ?_⟩ ⟨?_, ?_⟩ ⟨?_, ?_⟩ ?_ ?_ ?_ ?_).mono ?_
      · simp [go_sem]
      · simp [go_sem]
      · exact (hrow.kept (ex := []) (by repeat (first | exact Kept.refl _ _ | apply Kept.alloc)) (by simp)).cell m1 _ (by rw [nodes_get (by have := HM.out; omega), Hv.out])
      · exact Kept.cellSome (ex := []) (w := wr) (by repeat (first | exact Kept.refl _ _ | apply Kept.alloc)) hlo2 (by simp)
      · simp [go_sem]
      · simp [go_sem]
      · simp [go_sem]
      · simp [go_sem]
      · simp [go_sem]
      · simp [go_sem]
      · simp [go_sem]
      · simp [go_sem]
      · simp; omega
      · simp [go_sem]
      · simp [go_sem]
      · simp [go_sem]
      rintro e w2 ⟨rfl, g2, cap2, hk2, oC, oB, oA, oL, rg2, hg2, S', c', cP, hc', rS⟩
      have kw : Kept [wr.heap.size, w.heap.size + 1, wr.heap.size + 1, wr.heap.size + 1 + 1 + 1 + 1, wr.heap.size + 1 + 1, wr.heap.size + 1 + 1 + 1] wr w2 := Kept.trans (by repeat (first | exact Kept.refl _ _ | apply Kept.alloc)) hk2
      have cR := hk2.cellSome (p := ⟨wr.heap.size + 1 + 1 + 1 + 1 + 1, 0, none⟩) (v := .int .i64 (a % 6)) (by simp [go_sem]) (by simp; omega)
      have cLo := kw.cellSome hlo2 (by simp; omega)
      have hb2 : Below w.heap.size w w2 := hbw.trans (kw.below (by omega) (by simp; omega))
      have hv2 := hv.kept hb2
      obtain ⟨cC, _⟩ := oC
      obtain ⟨cB, _⟩ := oB
      obtain ⟨cA, _⟩ := oA
      obtain ⟨cL, _⟩ := oL
      have hm1 := HM.out
      have hbz : ((k : Int) == 0) = false := by simp; omega
      rw [nodes_take vs (show m1 ≤ k by omega)] at rg2
      have hs1 : ∀ j, j < n → w2.cell? ⟨g2, j, none⟩ = some (.iface 26 (.float .f64 ((vs.drop (m1 - n)).getD j 0))) := fun j hj => args_cell rg2 (by omega)
      have hs2 : ∀ j, j < m1 - n → w2.cell? ⟨S', j, none⟩ = some (.iface 26 (.float .f64 (vs.getD j 0))) := fun j hj => stack_cell rS (by omega) hj
      have hs3 : w2.cell? ⟨S', m1 - n, none⟩ = some (.iface 52 (.agg #[.int .i64 7])) := stack_top rS (by omega)
      have hf1 : Floats w2 (if vc = m1 - n then va else va.map (·.add (m1 - n))) n (vs.drop (m1 - n)) := by have h := hv2.mid (l := m1 - n) (h := m1) (c := vc) (by omega) (by omega) hkc; rwa [show m1 - (m1 - n) = n by omega] at h
      have hf2 : Floats w2 va (m1 - n) vs := hv2.low (by omega)
      obtain ⟨va1, hva1⟩ : ∃ x, x = (if vc = m1 - n then va else va.map (·.add (m1 - n))) := ⟨_, rfl⟩
      rw [← hva1] at hf1
      have hb : ((m1 : Int) - (n : Int)) = ((m1 - n : Nat) : Int) := by omega
      have hsl1 : ∀ w, (Instr.slice 38 (.slice va k vc) (some (.int .i64 ((m1 : Int) - (n : Int)))) (some (.int .i64 (m1 : Int))) none).run Ybaf.prog w = .ok (.slice va1 n (vc - (m1 - n))) w := fun w => by
        rw [hb, slice38_both w va k vc (m1 - n) m1 (by omega) (by omega), ← hva1, show m1 - (m1 - n) = n by omega]
      have hsl2 : ∀ w, (Instr.slice 38 (.slice va k vc) none (some (.int .i64 ((m1 : Int) - (n : Int)))) none).run Ybaf.prog w = .ok (.slice va (m1 - n) vc) w := fun w => by
        rw [hb]; exact slice38_high w va k vc (m1 - n) (by omega)
      obtain ⟨i0, hi, hz0, hz1, hz9⟩ := info_parts info41
      have hsl3 : ∀ w, (Instr.slice 39 (.slice (some ⟨S', 0, none⟩) (m1 - n + 1) c') none (some (.int .i64 ((m1 : Int) - (n : Int)))) none).run Ybaf.prog w = .ok (.slice (some ⟨S', 0, none⟩) (m1 - n) c') w := fun w =>
        slice_high w Ybaf.underlying39 hi S' 0 (m1 - n + 1) c' (m1 - n) _ hb (by omega)
      have q1 := ta52
      have q2 := run_neq_nil28
      have q3 := run_neq_ptr49
      have q4 := bits15
      obtain ⟨V, off, hva, hcv⟩ : ∃ V off, va = some ⟨V, off, none⟩ ∧ ∀ j, j < k → w2.cell? ⟨V, off + j, none⟩ = some (.float .f64 (vs.getD j 0)) := by
        rcases hv2 with h | h
        · omega
        · exact h
      have hc1 := hcv m1 (by omega)
      rw [Hv.out] at hc1
      have hc2 : w2.cell? ⟨V, off + ((k : Int) - 1).toNat, none⟩ = some (.float .f64 v) := by rw [show ((k : Int) - 1).toNat = m1 by omega]; exact hc1
      have hc3 : w2.cell? ⟨V, off + (k - 1), none⟩ = some (.float .f64 v) := by rw [show k - 1 = m1 by omega]; exact hc1
      have b1 : (0 : Int) ≤ (k : Int) - 1 := by omega
      have b2 : (k : Int) - 1 < (k : Int) := by omega
      have b3 : ¬ ((k : Int) - 1 < a % 6 - 1) := by have := Hn.out; omega
      have hwr0 : IntKind.i64.wrap ((k : Int) - 1) = (k : Int) - 1 := by rw [IntKind.wrap_i64]; omega
      have hwr : IntKind.i64.wrap ((m1 : Int) - (n : Int)) = (m1 : Int) - (n : Int) := by rw [IntKind.wrap_i64]; omega
      have Hb1 : Hid ((k : Int) - 1 = (m1 : Int)) := by show (k : Int) - 1 = (m1 : Int); omega
      have b4 : (n : Int) ≤ (m1 : Int) := by omega
      have b5 : (m1 : Int) ≤ 1024 := by omega
      clear hk2 kw hvr hrow rg2 rS hfl hbw hv hv2 hi hz0 hz1 hz9 hva1 hb hm1 hcv hc1 hg hlo2
      subst hva
      go_wp2
      go_quiet (fail)
      go_wp2
      rw [Hb1.out, Hn.out]
      go_quiet (fail)
      go_wp2
      go_quiet ((go_at_call 14; exact quiet_add (ceq_any _ _ _ _ _ (vs.drop (m1 - n)) _ (by omega) (by exact hs1) (by exact hf1))))
      go_wp2
      go_quiet ((go_at_call 14; exact quiet_add (ceq_any _ _ _ _ _ vs _ (by omega) (by exact hs2) (by exact hf2))))
      generalize hw5 : World.drewN (World.drewN w2 _) _ = w5
      have cP5 : w5.cell? ⟨wr.heap.size, 8, none⟩ = some (.slice (some ⟨S', 0, none⟩) (m1 - n + 1) c') := by rw [← hw5]; exact cP
      have hs5 : w5.cell? ⟨S', m1 - n, none⟩ = some (.iface 52 (.agg #[.int .i64 7])) := by rw [← hw5]; exact hs3
      have hb5 : Below w.heap.size w w5 := by rw [← hw5]; exact below_drewN (below_drewN hb2 _) _
      clear hw5 cP hs3 hb2 hs1 hs2 hf1 hf2 cC cB cA cL cR
      go_wp2
      go_ret
      exact ⟨rfl, hb5.alloc hb5.size _⟩

set_option maxRecDepth 100000 in
set_option maxHeartbeats 1000000 in
theorem apply_t4pe (va : Option Addr) (m vc l : Nat) (a pos : Int) (vs : List Nat) (w : World) (hm : m ≤ 1024) (hkc : m ≤ vc) (hv : Floats w va m vs) (ha0 : 0 ≤ a) (ha1 : a ≤ 255) (hz6 : (a % 6 == 0) = false) (m1 : Nat) (HM : Hid (m = m1 + 1)) (v : Nat) (Hv : Hid (vs.getD m1 0 = v)) (ho : FloatKind.f64.format.order v l = some .eq) (hg : geB v l = true) (n : Nat) (Hn : Hid (a % 6 - 1 = (n : Int))) (hnm : n ≤ m1) (ha5 : (a % 6 : Int) ≤ 5) (ha6 : (1 : Int) ≤ a % 6) :
    Calls Ybaf.prog 5 #[.slice va m vc, .int .u8 a, .bool true, .float .f64 l, .int .i64 pos] w fun e w' => e = .returned (.bool true) ∧ Below w.heap.size w w' := by
  have hmk := fun w => make39 m hm w
  have hd : decide ((1024 : Int) < (m : Int)) = false := by simp; omega
  have hmf : ∀ (fn : Fn) (first cap : Array Value) (w : World), (Instr.makeFunc fn first cap).run Ybaf.prog w = .ok (.func fn first cap) w := fun _ _ _ _ => rfl
  go_enter Ybaf.func5, Ybaf.ntmps5
  go_wp2
  have k1 : Kept [] w ((w.alloc (.cells #[.float .f64 l] 25)).alloc (.cells (mk0 m) 41)) := ((Kept.refl [] w).alloc _).alloc _
  have f0 : Filled ((w.alloc (.cells #[.float .f64 l] 25)).alloc (.cells (mk0 m) 41)) (w.heap.size + 1) m 0 vs := Filled.zero (by have h := (MapKept.heap_alloc (w.alloc (.cells #[.float .f64 l] 25)) (.cells (mk0 m) 41)).1; rwa [World.size_alloc] at h)
  have hlo : ((w.alloc (.cells #[.float .f64 l] 25)).alloc (.cells (mk0 m) 41)).cell? ⟨w.heap.size, 0, none⟩ = some (.float .f64 l) := by simp [go_sem]
  go_loopw [34] (fun i wr => ∃ k : Nat, k ≤ m ∧ i = .int .i64 k ∧ Filled wr (w.heap.size + 1) m k vs ∧ Kept [w.heap.size + 1] ((w.alloc (.cells #[.float .f64 l] 25)).alloc (.cells (mk0 m) 41)) wr) (fun i _ => m - (intOf i).toNat)
  case atStart => exact ⟨0, Nat.zero_le _, rfl, f0, Kept.refl _ _⟩
  case round =>
    obtain ⟨k, hk, rfl, hfl, hkr⟩ := hrel
    have hbw : Below w.heap.size w wr := (k1.below (Nat.le_refl _) (by simp)).trans (hkr.below (by simp; omega) (by simp))
    have hvr := hv.kept hbw
    by_cases hkm : k < m
    · obtain ⟨V, off, rfl, hcv⟩ : ∃ V off, va = some ⟨V, off, none⟩ ∧ ∀ j, j < m → wr.cell? ⟨V, off + j, none⟩ = some (.float .f64 (vs.getD j 0)) := by
        rcases hvr with h | h
        · omega
        · exact h
      have hc := hcv k hkm
      obtain ⟨v0, hs, hsf⟩ := hfl.spot hkm
      have b1 : (0 : Int) ≤ (k : Int) := by omega
      have b2 : (k : Int) < (m : Int) := by omega
      have hst := hfl.step hkm
      have hkk : Kept [w.heap.size + 1] ((w.alloc (.cells #[.float .f64 l] 25)).alloc (.cells (mk0 m) 41)) (wr.setCell ⟨w.heap.size + 1, k, none⟩ (.iface 26 (.float .f64 (vs.getD k 0)))) := hkr.setCell (p := ⟨w.heap.size + 1, k, none⟩) (Or.inl (by simp)) _
      clear hcv hvr hfl hbw hv hkr
      go_wp2
      go_roundw
      case rel => exact ⟨k + 1, by omega, by go_num, hst, hkk⟩
      case measure => simp [intOf]; omega
    · obtain rfl : k = m := by omega
      have hrow := hfl.row
      have lB : w.heap.size + 1 < wr.heap.size := hrow.lt
      have hlo2 : wr.cell? ⟨w.heap.size, 0, none⟩ = some (.float .f64 l) := hkr.cellSome hlo (by simp)
      have lB0 : w.heap.size < wr.heap.size := by omega
      clear f0 k1 hkr
      go_wp2_with fail
      refine (grid_last_ok' wr.heap.size (w.heap.size + 1) k m1 n k w.heap.size (wr.heap.size + 1 + 1 + 1 + 1 + 1 + 1) (wr.heap.size + 1) (wr.heap.size + 1 + 1 + 1 + 1) (wr.heap.size + 1 + 1) (wr.heap.size + 1 + 1 + 1) l v (a % 6) pos (nodes vs k) (.pointer none) (.slice none 0 0) (.float .f64 0) _ HM ?_ ?_ hnm (Nat.le_refl _) hm (nodes_length vs k) (hrow.kept (ex := []) (by repeat (first | exact Kept.refl _ _ | apply Kept.alloc)) (by simp)) nodes_one ?_ ?_ hg Hn ha5 ⟨?_, ?_⟩ ⟨?_, ?_⟩ ⟨?_, ?_⟩ ⟨?_, ?_⟩ ?_ ?_ ?_ ?_).mono ?_
      · simp [go_sem]
      · simp [go_sem]
      · exact (hrow.kept (ex := []) (by repeat (first | exact Kept.refl _ _ | apply Kept.alloc)) (by simp)).cell m1 _ (by rw [nodes_get (by have := HM.out; omega), Hv.out])
      · exact Kept.cellSome (ex := []) (w := wr) (by repeat (first | exact Kept.refl _ _ | apply Kept.alloc)) hlo2 (by simp)
      · simp [go_sem]
      · simp [go_sem]
      · simp [go_sem]
      · simp [go_sem]
      · simp [go_sem]
      · simp [go_sem]
      · simp [go_sem]
      · simp [go_sem]
      · simp; omega
      · simp [go_sem]
      · simp [go_sem]
      · simp [go_sem]
      rintro e w2 ⟨rfl, g2, cap2, hk2, oC, oB, oA, oL, rg2, hg2, S', c', cP, hc', rS⟩
      have kw : Kept [wr.heap.size, w.heap.size + 1, wr.heap.size + 1, wr.heap.size + 1 + 1 + 1 + 1, wr.heap.size + 1 + 1, wr.heap.size + 1 + 1 + 1] wr w2 := Kept.trans (by repeat (first | exact Kept.refl _ _ | apply Kept.alloc)) hk2
      have cR := hk2.cellSome (p := ⟨wr.heap.size + 1 + 1 + 1 + 1 + 1, 0, none⟩) (v := .int .i64 (a % 6)) (by simp [go_sem]) (by simp; omega)
      have cLo := kw.cellSome hlo2 (by simp; omega)
      have hb2 : Below w.heap.size w w2 := hbw.trans (kw.below (by omega) (by simp; omega))
      have hv2 := hv.kept hb2
      obtain ⟨cC, _⟩ := oC
      obtain ⟨cB, _⟩ := oB
      obtain ⟨cA, _⟩ := oA
      obtain ⟨cL, _⟩ := oL
      have hm1 := HM.out
      have hbz : ((k : Int) == 0) = false := by simp; omega
      rw [nodes_take vs (show m1 ≤ k by omega)] at rg2
      have hs1 : ∀ j, j < n → w2.cell? ⟨g2, j, none⟩ = some (.iface 26 (.float .f64 ((vs.drop (m1 - n)).getD j 0))) := fun j hj => args_cell rg2 (by omega)
      have hs2 : ∀ j, j < m1 - n → w2.cell? ⟨S', j, none⟩ = some (.iface 26 (.float .f64 (vs.getD j 0))) := fun j hj => stack_cell rS (by omega) hj
      have hs3 : w2.cell? ⟨S', m1 - n, none⟩ = some (.iface 52 (.agg #[.int .i64 7])) := stack_top rS (by omega)
      have hf1 : Floats w2 (if vc = m1 - n then va else va.map (·.add (m1 - n))) n (vs.drop (m1 - n)) := by have h := hv2.mid (l := m1 - n) (h := m1) (c := vc) (by omega) (by omega) hkc; rwa [show m1 - (m1 - n) = n by omega] at h
      have hf2 : Floats w2 va (m1 - n) vs := hv2.low (by omega)
      obtain ⟨va1, hva1⟩ : ∃ x, x = (if vc = m1 - n then va else va.map (·.add (m1 - n))) := ⟨_, rfl⟩
      rw [← hva1] at hf1
      have hb : ((m1 : Int) - (n : Int)) = ((m1 - n : Nat) : Int) := by omega
      have hsl1 : ∀ w, (Instr.slice 38 (.slice va k vc) (some (.int .i64 ((m1 : Int) - (n : Int)))) (some (.int .i64 (m1 : Int))) none).run Ybaf.prog w = .ok (.slice va1 n (vc - (m1 - n))) w := fun w => by
        rw [hb, slice38_both w va k vc (m1 - n) m1 (by omega) (by omega), ← hva1, show m1 - (m1 - n) = n by omega]
      have hsl2 : ∀ w, (Instr.slice 38 (.slice va k vc) none (some (.int .i64 ((m1 : Int) - (n : Int)))) none).run Ybaf.prog w = .ok (.slice va (m1 - n) vc) w := fun w => by
        rw [hb]; exact slice38_high w va k vc (m1 - n) (by omega)
      obtain ⟨i0, hi, hz0, hz1, hz9⟩ := info_parts info41
      have hsl3 : ∀ w, (Instr.slice 39 (.slice (some ⟨S', 0, none⟩) (m1 - n + 1) c') none (some (.int .i64 ((m1 : Int) - (n : Int)))) none).run Ybaf.prog w = .ok (.slice (some ⟨S', 0, none⟩) (m1 - n) c') w := fun w =>
        slice_high w Ybaf.underlying39 hi S' 0 (m1 - n + 1) c' (m1 - n) _ hb (by omega)
      have q1 := ta52
      have q2 := run_neq_nil28
      have q3 := run_neq_ptr49
      have q4 := bits15
      obtain ⟨V, off, hva, hcv⟩ : ∃ V off, va = some ⟨V, off, none⟩ ∧ ∀ j, j < k → w2.cell? ⟨V, off + j, none⟩ = some (.float .f64 (vs.getD j 0)) := by
        rcases hv2 with h | h
        · omega
        · exact h
      have hc1 := hcv m1 (by omega)
      rw [Hv.out] at hc1
      have hc2 : w2.cell? ⟨V, off + ((k : Int) - 1).toNat, none⟩ = some (.float .f64 v) := by rw [show ((k : Int) - 1).toNat = m1 by omega]; exact hc1
      have hc3 : w2.cell? ⟨V, off + (k - 1), none⟩ = some (.float .f64 v) := by rw [show k - 1 = m1 by omega]; exact hc1
      have b1 : (0 : Int) ≤ (k : Int) - 1 := by omega
      have b2 : (k : Int) - 1 < (k : Int) := by omega
      have b3 : ¬ ((k : Int) - 1 < a % 6 - 1) := by have := Hn.out; omega
      have hwr0 : IntKind.i64.wrap ((k : Int) - 1) = (k : Int) - 1 := by rw [IntKind.wrap_i64]; omega
      have hwr : IntKind.i64.wrap ((m1 : Int) - (n : Int)) = (m1 : Int) - (n : Int) := by rw [IntKind.wrap_i64]; omega
      have Hb1 : Hid ((k : Int) - 1 = (m1 : Int)) := by show (k : Int) - 1 = (m1 : Int); omega
      have b4 : (n : Int) ≤ (m1 : Int) := by omega
      have b5 : (m1 : Int) ≤ 1024 := by omega
      clear hk2 kw hvr hrow rg2 rS hfl hbw hv hv2 hi hz0 hz1 hz9 hva1 hb hm1 hcv hc1 hg hlo2
      subst hva
      go_wp2
      go_quiet (fail)
      go_wp2
      rw [Hb1.out, Hn.out]
      go_quiet (fail)
      go_wp2
      go_quiet ((go_at_call 14; exact quiet_add (ceq_any _ _ _ _ _ (vs.drop (m1 - n)) _ (by omega) (by exact hs1) (by exact hf1))))
      go_wp2
      go_quiet ((go_at_call 14; exact quiet_add (ceq_any _ _ _ _ _ vs _ (by omega) (by exact hs2) (by exact hf2))))
      generalize hw5 : World.drewN (World.drewN w2 _) _ = w5
      have cP5 : w5.cell? ⟨wr.heap.size, 8, none⟩ = some (.slice (some ⟨S', 0, none⟩) (m1 - n + 1) c') := by rw [← hw5]; exact cP
      have hs5 : w5.cell? ⟨S', m1 - n, none⟩ = some (.iface 52 (.agg #[.int .i64 7])) := by rw [← hw5]; exact hs3
      have hb5 : Below w.heap.size w w5 := by rw [← hw5]; exact below_drewN (below_drewN hb2 _) _
      clear hw5 cP hs3 hb2 hs1 hs2 hf1 hf2 cC cB cA cL cR
      go_wp2
      go_ret
      exact ⟨rfl, hb5.alloc hb5.size _⟩

set_option maxRecDepth 100000 in
set_option maxHeartbeats 1000000 in
theorem apply_t4zg (va : Option Addr) (m vc l : Nat) (a pos : Int) (vs : List Nat) (w : World) (hm : m ≤ 1024) (hkc : m ≤ vc) (hv : Floats w va m vs) (ha0 : 0 ≤ a) (ha1 : a ≤ 255) (hz6 : (a % 6 == 0) = true) (m1 : Nat) (HM : Hid (m = m1 + 1)) (v : Nat) (Hv : Hid (vs.getD m1 0 = v)) (ho : FloatKind.f64.format.order v l = some .gt) (hg : geB v l = true) :
    Calls Ybaf.prog 5 #[.slice va m vc, .int .u8 a, .bool true, .float .f64 l, .int .i64 pos] w fun e w' => e = .returned (.bool true) ∧ Below w.heap.size w w' := by
  have hmk := fun w => make39 m hm w
  have hd : decide ((1024 : Int) < (m : Int)) = false := by simp; omega
  have hmf : ∀ (fn : Fn) (first cap : Array Value) (w : World), (Instr.makeFunc fn first cap).run Ybaf.prog w = .ok (.func fn first cap) w := fun _ _ _ _ => rfl
  go_enter Ybaf.func5, Ybaf.ntmps5
  go_wp2
  have k1 : Kept [] w ((w.alloc (.cells #[.float .f64 l] 25)).alloc (.cells (mk0 m) 41)) := ((Kept.refl [] w).alloc _).alloc _
  have f0 : Filled ((w.alloc (.cells #[.float .f64 l] 25)).alloc (.cells (mk0 m) 41)) (w.heap.size + 1) m 0 vs := Filled.zero (by have h := (MapKept.heap_alloc (w.alloc (.cells #[.float .f64 l] 25)) (.cells (mk0 m) 41)).1; rwa [World.size_alloc] at h)
  have hlo : ((w.alloc (.cells #[.float .f64 l] 25)).alloc (.cells (mk0 m) 41)).cell? ⟨w.heap.size, 0, none⟩ = some (.float .f64 l) := by simp [go_sem]
  go_loopw [34] (fun i wr => ∃ k : Nat, k ≤ m ∧ i = .int .i64 k ∧ Filled wr (w.heap.size + 1) m k vs ∧ Kept [w.heap.size + 1] ((w.alloc (.cells #[.float .f64 l] 25)).alloc (.cells (mk0 m) 41)) wr) (fun i _ => m - (intOf i).toNat)
  case atStart => exact ⟨0, Nat.zero_le _, rfl, f0, Kept.refl _ _⟩
  case round =>
    obtain ⟨k, hk, rfl, hfl, hkr⟩ := hrel
    have hbw : Below w.heap.size w wr := (k1.below (Nat.le_refl _) (by simp)).trans (hkr.below (by simp; omega) (by simp))
    have hvr := hv.kept hbw
    by_cases hkm : k < m
    · obtain ⟨V, off, rfl, hcv⟩ : ∃ V off, va = some ⟨V, off, none⟩ ∧ ∀ j, j < m → wr.cell? ⟨V, off + j, none⟩ = some (.float .f64 (vs.getD j 0)) := by
        rcases hvr with h | h
        · omega
        · exact h
      have hc := hcv k hkm
      obtain ⟨v0, hs, hsf⟩ := hfl.spot hkm
      have b1 : (0 : Int) ≤ (k : Int) := by omega
      have b2 : (k : Int) < (m : Int) := by omega
      have hst := hfl.step hkm
      have hkk : Kept [w.heap.size + 1] ((w.alloc (.cells #[.float .f64 l] 25)).alloc (.cells (mk0 m) 41)) (wr.setCell ⟨w.heap.size + 1, k, none⟩ (.iface 26 (.float .f64 (vs.getD k 0)))) := hkr.setCell (p := ⟨w.heap.size + 1, k, none⟩) (Or.inl (by simp)) _
      clear hcv hvr hfl hbw hv hkr
      go_wp2
      go_roundw
      case rel => exact ⟨k + 1, by omega, by go_num, hst, hkk⟩
      case measure => simp [intOf]; omega
    · obtain rfl : k = m := by omega
      have hrow := hfl.row
      have lB : w.heap.size + 1 < wr.heap.size := hrow.lt
      have hlo2 : wr.cell? ⟨w.heap.size, 0, none⟩ = some (.float .f64 l) := hkr.cellSome hlo (by simp)
      have lB0 : w.heap.size < wr.heap.size := by omega
      clear f0 k1 hkr
      go_wp2_with fail
      refine (grid_last_ok' wr.heap.size (w.heap.size + 1) k m1 0 k w.heap.size (wr.heap.size + 1 + 1 + 1 + 1 + 1 + 1) (wr.heap.size + 1) (wr.heap.size + 1 + 1 + 1 + 1) (wr.heap.size + 1 + 1) (wr.heap.size + 1 + 1 + 1) l v 1 pos (nodes vs k) (.pointer none) (.slice none 0 0) (.float .f64 0) _ HM ?_ ?_ (Nat.zero_le _) (Nat.le_refl _) hm (nodes_length vs k) (hrow.kept (ex := []) (by repeat (first | exact Kept.refl _ _ | apply Kept.alloc)) (by simp)) nodes_one ?_ ?_ hg (by show (1 : Int) - 1 = ((0 : Nat) : Int); rfl) (by decide) ⟨?_, ?_⟩ ⟨?_, ?_⟩ ⟨?_, ?_⟩ ⟨?_, ?_⟩ ?_ ?_ ?_ ?_).mono ?_
      · simp [go_sem]
      · simp [go_sem]
      · exact (hrow.kept (ex := []) (by repeat (first | exact Kept.refl _ _ | apply Kept.alloc)) (by simp)).cell m1 _ (by rw [nodes_get (by have := HM.out; omega), Hv.out])
      · exact Kept.cellSome (ex := []) (w := wr) (by repeat (first | exact Kept.refl _ _ | apply Kept.alloc)) hlo2 (by simp)
      · simp [go_sem]
      · simp [go_sem]
      · simp [go_sem]
      · simp [go_sem]
      · simp [go_sem]
      · simp [go_sem]
      · simp [go_sem]
      · simp [go_sem]
      · simp; omega
      · simp [go_sem]
      · simp [go_sem]
      · simp [go_sem]
      rintro e w2 ⟨rfl, g2, cap2, hk2, oC, oB, oA, oL, rg2, hg2, S', c', cP, hc', rS⟩
      rw [Nat.sub_zero] at cP hc' rS rg2
      have kw : Kept [wr.heap.size, w.heap.size + 1, wr.heap.size + 1, wr.heap.size + 1 + 1 + 1 + 1, wr.heap.size + 1 + 1, wr.heap.size + 1 + 1 + 1] wr w2 := Kept.trans (by repeat (first | exact Kept.refl _ _ | apply Kept.alloc)) hk2
      have cR := hk2.cellSome (p := ⟨wr.heap.size + 1 + 1 + 1 + 1 + 1, 0, none⟩) (v := .int .i64 1) (by simp [go_sem]) (by simp; omega)
      have cLo := kw.cellSome hlo2 (by simp; omega)
      have hb2 : Below w.heap.size w w2 := hbw.trans (kw.below (by omega) (by simp; omega))
      have hv2 := hv.kept hb2
      obtain ⟨cC, _⟩ := oC
      obtain ⟨cB, _⟩ := oB
      obtain ⟨cA, _⟩ := oA
      obtain ⟨cL, _⟩ := oL
      have hm1 := HM.out
      have hbz : ((k : Int) == 0) = false := by simp; omega
      rw [nodes_take vs (show m1 ≤ k by omega)] at rg2
      have hs1 : ∀ j, j < 0 → w2.cell? ⟨g2, j, none⟩ = some (.iface 26 (.float .f64 ((vs.drop (m1)).getD j 0))) := fun j hj => args_cell rg2 (by omega)
      have hs2 : ∀ j, j < m1 → w2.cell? ⟨S', j, none⟩ = some (.iface 26 (.float .f64 (vs.getD j 0))) := fun j hj => stack_cell rS (by omega) hj
      have hs3 : w2.cell? ⟨S', m1, none⟩ = some (.iface 52 (.agg #[.int .i64 7])) := stack_top rS (by omega)
      have hf1 : Floats w2 (if vc = m1 then va else va.map (·.add (m1))) 0 (vs.drop (m1)) := by have h := hv2.mid (l := m1) (h := m1) (c := vc) (by omega) (by omega) hkc; rwa [show m1 - m1 = 0 by omega] at h
      have hf2 : Floats w2 va (m1) vs := hv2.low (by omega)
      obtain ⟨va1, hva1⟩ : ∃ x, x = (if vc = m1 then va else va.map (·.add (m1))) := ⟨_, rfl⟩
      rw [← hva1] at hf1
      have hsl1 : ∀ w, (Instr.slice 38 (.slice va k vc) (some (.int .i64 (m1 : Int))) (some (.int .i64 (m1 : Int))) none).run Ybaf.prog w = .ok (.slice va1 0 (vc - (m1))) w := fun w => by
        rw [slice38_both w va k vc (m1) m1 (by omega) (by omega), ← hva1, show m1 - m1 = 0 by omega]
      have hsl2 : ∀ w, (Instr.slice 38 (.slice va k vc) none (some (.int .i64 (m1 : Int))) none).run Ybaf.prog w = .ok (.slice va (m1) vc) w := fun w => by
        exact slice38_high w va k vc (m1) (by omega)
      obtain ⟨i0, hi, hz0, hz1, hz9⟩ := info_parts info41
      have hsl3 : ∀ w, (Instr.slice 39 (.slice (some ⟨S', 0, none⟩) (m1 + 1) c') none (some (.int .i64 (m1 : Int))) none).run Ybaf.prog w = .ok (.slice (some ⟨S', 0, none⟩) (m1) c') w := fun w =>
        slice_high w Ybaf.underlying39 hi S' 0 (m1 + 1) c' m1 _ rfl (by omega)
      have q1 := ta52
      have q2 := run_neq_nil28
      have q3 := run_neq_ptr49
      have q4 := bits15
      obtain ⟨V, off, hva, hcv⟩ : ∃ V off, va = some ⟨V, off, none⟩ ∧ ∀ j, j < k → w2.cell? ⟨V, off + j, none⟩ = some (.float .f64 (vs.getD j 0)) := by
        rcases hv2 with h | h
        · omega
        · exact h
      have hc1 := hcv m1 (by omega)
      rw [Hv.out] at hc1
      have hc2 : w2.cell? ⟨V, off + ((k : Int) - 1).toNat, none⟩ = some (.float .f64 v) := by rw [show ((k : Int) - 1).toNat = m1 by omega]; exact hc1
      have hc3 : w2.cell? ⟨V, off + (k - 1), none⟩ = some (.float .f64 v) := by rw [show k - 1 = m1 by omega]; exact hc1
      have b1 : (0 : Int) ≤ (k : Int) - 1 := by omega
      have b2 : (k : Int) - 1 < (k : Int) := by omega
      have b3 : ¬ ((k : Int) - 1 < 0) := by omega
      have hwr0 : IntKind.i64.wrap ((k : Int) - 1) = (k : Int) - 1 := by rw [IntKind.wrap_i64]; omega
      have hwr : IntKind.i64.wrap (m1 : Int) = (m1 : Int) := by rw [IntKind.wrap_i64]; omega
      have Hb1 : Hid ((k : Int) - 1 = (m1 : Int)) := by show (k : Int) - 1 = (m1 : Int); omega
      have b5 : (m1 : Int) ≤ 1024 := by omega
      clear hk2 kw hvr hrow rg2 rS hfl hbw hv hv2 hi hz0 hz1 hz9 hva1 hm1 hcv hc1 hg hlo2
      subst hva
      go_wp2
      go_quiet (fail)
      go_wp2
      rw [Hb1.out]
      go_quiet (fail)
      go_wp2
      go_quiet ((go_at_call 14; exact quiet_add (ceq_any _ _ _ _ _ (vs.drop (m1)) _ (by omega) (by exact hs1) (by exact hf1))))
      go_wp2
      go_quiet ((go_at_call 14; exact quiet_add (ceq_any _ _ _ _ _ vs _ (by omega) (by exact hs2) (by exact hf2))))
      generalize hw5 : World.drewN (World.drewN w2 _) _ = w5
      have cP5 : w5.cell? ⟨wr.heap.size, 8, none⟩ = some (.slice (some ⟨S', 0, none⟩) (m1 + 1) c') := by rw [← hw5]; exact cP
      have hs5 : w5.cell? ⟨S', m1, none⟩ = some (.iface 52 (.agg #[.int .i64 7])) := by rw [← hw5]; exact hs3
      have hb5 : Below w.heap.size w w5 := by rw [← hw5]; exact below_drewN (below_drewN hb2 _) _
      clear hw5 cP hs3 hb2 hs1 hs2 hf1 hf2 cC cB cA cL cR
      go_wp2
      go_ret
      exact ⟨rfl, hb5.alloc hb5.size _⟩

set_option maxRecDepth 100000 in
set_option maxHeartbeats 1000000 in
theorem apply_t4ze (va : Option Addr) (m vc l : Nat) (a pos : Int) (vs : List Nat) (w : World) (hm : m ≤ 1024) (hkc : m ≤ vc) (hv : Floats w va m vs) (ha0 : 0 ≤ a) (ha1 : a ≤ 255) (hz6 : (a % 6 == 0) = true) (m1 : Nat) (HM : Hid (m = m1 + 1)) (v : Nat) (Hv : Hid (vs.getD m1 0 = v)) (ho : FloatKind.f64.format.order v l = some .eq) (hg : geB v l = true) :
    Calls Ybaf.prog 5 #[.slice va m vc, .int .u8 a, .bool true, .float .f64 l, .int .i64 pos] w fun e w' => e = .returned (.bool true) ∧ Below w.heap.size w w' := by
  have hmk := fun w => make39 m hm w
  have hd : decide ((1024 : Int) < (m : Int)) = false := by simp; omega
  have hmf : ∀ (fn : Fn) (first cap : Array Value) (w : World), (Instr.makeFunc fn first cap).run Ybaf.prog w = .ok (.func fn first cap) w := fun _ _ _ _ => rfl
  go_enter Ybaf.func5, Ybaf.ntmps5
  go_wp2
  have k1 : Kept [] w ((w.alloc (.cells #[.float .f64 l] 25)).alloc (.cells (mk0 m) 41)) := ((Kept.refl [] w).alloc _).alloc _
  have f0 : Filled ((w.alloc (.cells #[.float .f64 l] 25)).alloc (.cells (mk0 m) 41)) (w.heap.size + 1) m 0 vs := Filled.zero (by have h := (MapKept.heap_alloc (w.alloc (.cells #[.float .f64 l] 25)) (.cells (mk0 m) 41)).1; rwa [World.size_alloc] at h)
  have hlo : ((w.alloc (.cells #[.float .f64 l] 25)).alloc (.cells (mk0 m) 41)).cell? ⟨w.heap.size, 0, none⟩ = some (.float .f64 l) := by simp [go_sem]
  go_loopw [34] (fun i wr => ∃ k : Nat, k ≤ m ∧ i = .int .i64 k ∧ Filled wr (w.heap.size + 1) m k vs ∧ Kept [w.heap.size + 1] ((w.alloc (.cells #[.float .f64 l] 25)).alloc (.cells (mk0 m) 41)) wr) (fun i _ => m - (intOf i).toNat)
  case atStart => exact ⟨0, Nat.zero_le _, rfl, f0, Kept.refl _ _⟩
  case round =>
    obtain ⟨k, hk, rfl, hfl, hkr⟩ := hrel
    have hbw : Below w.heap.size w wr := (k1.below (Nat.le_refl _) (by simp)).trans (hkr.below (by simp; omega) (by simp))
    have hvr := hv.kept hbw
    by_cases hkm : k < m
    · obtain ⟨V, off, rfl, hcv⟩ : ∃ V off, va = some ⟨V, off, none⟩ ∧ ∀ j, j < m → wr.cell? ⟨V, off + j, none⟩ = some (.float .f64 (vs.getD j 0)) := by
        rcases hvr with h | h
        · omega
        · exact h
      have hc := hcv k hkm
      obtain ⟨v0, hs, hsf⟩ := hfl.spot hkm
      have b1 : (0 : Int) ≤ (k : Int) := by omega
      have b2 : (k : Int) < (m : Int) := by omega
      have hst := hfl.step hkm
      have hkk : Kept [w.heap.size + 1] ((w.alloc (.cells #[.float .f64 l] 25)).alloc (.cells (mk0 m) 41)) (wr.setCell ⟨w.heap.size + 1, k, none⟩ (.iface 26 (.float .f64 (vs.getD k 0)))) := hkr.setCell (p := ⟨w.heap.size + 1, k, none⟩) (Or.inl (by simp)) _
      clear hcv hvr hfl hbw hv hkr
      go_wp2
      go_roundw
      case rel => exact ⟨k + 1, by omega, by go_num, hst, hkk⟩
      case measure => simp [intOf]; omega
    · obtain rfl : k = m := by omega
      have hrow := hfl.row
      have lB : w.heap.size + 1 < wr.heap.size := hrow.lt
      have hlo2 : wr.cell? ⟨w.heap.size, 0, none⟩ = some (.float .f64 l) := hkr.cellSome hlo (by simp)
      have lB0 : w.heap.size < wr.heap.size := by omega
      clear f0 k1 hkr
      go_wp2_with fail
      refine (grid_last_ok' wr.heap.size (w.heap.size + 1) k m1 0 k w.heap.size (wr.heap.size + 1 + 1 + 1 + 1 + 1 + 1) (wr.heap.size + 1) (wr.heap.size + 1 + 1 + 1 + 1) (wr.heap.size + 1 + 1) (wr.heap.size + 1 + 1 + 1) l v 1 pos (nodes vs k) (.pointer none) (.slice none 0 0) (.float .f64 0) _ HM ?_ ?_ (Nat.zero_le _) (Nat.le_refl _) hm (nodes_length vs k) (hrow.kept (ex := []) (by repeat (first | exact Kept.refl _ _ | apply Kept.alloc)) (by simp)) nodes_one ?_ ?_ hg (by show (1 : Int) - 1 = ((0 : Nat) : Int); rfl) (by decide) ⟨?_, ?_⟩ ⟨?_, ?_⟩ ⟨?_, ?_⟩ ⟨?_, ?_⟩ ?_ ?_ ?_ ?_).mono ?_
      · simp [go_sem]
      · simp [go_sem]
      · exact (hrow.kept (ex := []) (by repeat (first | exact Kept.refl _ _ | apply Kept.alloc)) (by simp)).cell m1 _ (by rw [nodes_get (by have := HM.out; omega), Hv.out])
      · exact Kept.cellSome (ex := []) (w := wr) (by repeat (first | exact Kept.refl _ _ | apply Kept.alloc)) hlo2 (by simp)
      · simp [go_sem]
      · simp [go_sem]
      · simp [go_sem]
      · simp [go_sem]
      · simp [go_sem]
      · simp [go_sem]
      · simp [go_sem]
      · simp [go_sem]
      · simp; omega
      · simp [go_sem]
      · simp [go_sem]
      · simp [go_sem]
      rintro e w2 ⟨rfl, g2, cap2, hk2, oC, oB, oA, oL, rg2, hg2, S', c', cP, hc', rS⟩
      rw [Nat.sub_zero] at cP hc' rS rg2
      have kw : Kept [wr.heap.size, w.heap.size + 1, wr.heap.size + 1, wr.heap.size + 1 + 1 + 1 + 1, wr.heap.size + 1 + 1, wr.heap.size + 1 + 1 + 1] wr w2 := Kept.trans (by repeat (first | exact Kept.refl _ _ | apply Kept.alloc)) hk2
      have cR := hk2.cellSome (p := ⟨wr.heap.size + 1 + 1 + 1 + 1 + 1, 0, none⟩) (v := .int .i64 1) (by simp [go_sem]) (by simp; omega)
      have cLo := kw.cellSome hlo2 (by simp; omega)
      have hb2 : Below w.heap.size w w2 := hbw.trans (kw.below (by omega) (by simp; omega))
      have hv2 := hv.kept hb2
      obtain ⟨cC, _⟩ := oC
      obtain ⟨cB, _⟩ := oB
      obtain ⟨cA, _⟩ := oA
      obtain ⟨cL, _⟩ := oL
      have hm1 := HM.out
      have hbz : ((k : Int) == 0) = false := by simp; omega
      rw [nodes_take vs (show m1 ≤ k by omega)] at rg2
      have hs1 : ∀ j, j < 0 → w2.cell? ⟨g2, j, none⟩ = some (.iface 26 (.float .f64 ((vs.drop (m1)).getD j 0))) := fun j hj => args_cell rg2 (by omega)
      have hs2 : ∀ j, j < m1 → w2.cell? ⟨S', j, none⟩ = some (.iface 26 (.float .f64 (vs.getD j 0))) := fun j hj => stack_cell rS (by omega) hj
      have hs3 : w2.cell? ⟨S', m1, none⟩ = some (.iface 52 (.agg #[.int .i64 7])) := stack_top rS (by omega)
      have hf1 : Floats w2 (if vc = m1 then va else va.map (·.add (m1))) 0 (vs.drop (m1)) := by have h := hv2.mid (l := m1) (h := m1) (c := vc) (by omega) (by omega) hkc; rwa [show m1 - m1 = 0 by omega] at h
      have hf2 : Floats w2 va (m1) vs := hv2.low (by omega)
      obtain ⟨va1, hva1⟩ : ∃ x, x = (if vc = m1 then va else va.map (·.add (m1))) := ⟨_, rfl⟩
      rw [← hva1] at hf1
      have hsl1 : ∀ w, (Instr.slice 38 (.slice va k vc) (some (.int .i64 (m1 : Int))) (some (.int .i64 (m1 : Int))) none).run Ybaf.prog w = .ok (.slice va1 0 (vc - (m1))) w := fun w => by
        rw [slice38_both w va k vc (m1) m1 (by omega) (by omega), ← hva1, show m1 - m1 = 0 by omega]
      have hsl2 : ∀ w, (Instr.slice 38 (.slice va k vc) none (some (.int .i64 (m1 : Int))) none).run Ybaf.prog w = .ok (.slice va (m1) vc) w := fun w => by
        exact slice38_high w va k vc (m1) (by omega)
      obtain ⟨i0, hi, hz0, hz1, hz9⟩ := info_parts info41
      have hsl3 : ∀ w, (Instr.slice 39 (.slice (some ⟨S', 0, none⟩) (m1 + 1) c') none (some (.int .i64 (m1 : Int))) none).run Ybaf.prog w = .ok (.slice (some ⟨S', 0, none⟩) (m1) c') w := fun w =>
        slice_high w Ybaf.underlying39 hi S' 0 (m1 + 1) c' m1 _ rfl (by omega)
      have q1 := ta52
      have q2 := run_neq_nil28
      have q3 := run_neq_ptr49
      have q4 := bits15
      obtain ⟨V, off, hva, hcv⟩ : ∃ V off, va = some ⟨V, off, none⟩ ∧ ∀ j, j < k → w2.cell? ⟨V, off + j, none⟩ = some (.float .f64 (vs.getD j 0)) := by
        rcases hv2 with h | h
        · omega
        · exact h
      have hc1 := hcv m1 (by omega)
      rw [Hv.out] at hc1
      have hc2 : w2.cell? ⟨V, off + ((k : Int) - 1).toNat, none⟩ = some (.float .f64 v) := by rw [show ((k : Int) - 1).toNat = m1 by omega]; exact hc1
      have hc3 : w2.cell? ⟨V, off + (k - 1), none⟩ = some (.float .f64 v) := by rw [show k - 1 = m1 by omega]; exact hc1
      have b1 : (0 : Int) ≤ (k : Int) - 1 := by omega
      have b2 : (k : Int) - 1 < (k : Int) := by omega
      have b3 : ¬ ((k : Int) - 1 < 0) := by omega
      have hwr0 : IntKind.i64.wrap ((k : Int) - 1) = (k : Int) - 1 := by rw [IntKind.wrap_i64]; omega
      have hwr : IntKind.i64.wrap (m1 : Int) = (m1 : Int) := by rw [IntKind.wrap_i64]; omega
      have Hb1 : Hid ((k : Int) - 1 = (m1 : Int)) := by show (k : Int) - 1 = (m1 : Int); omega
      have b5 : (m1 : Int) ≤ 1024 := by omega
      clear hk2 kw hvr hrow rg2 rS hfl hbw hv hv2 hi hz0 hz1 hz9 hva1 hm1 hcv hc1 hg hlo2
      subst hva
      go_wp2
      go_quiet (fail)
      go_wp2
      rw [Hb1.out]
      go_quiet (fail)
      go_wp2
      go_quiet ((go_at_call 14; exact quiet_add (ceq_any _ _ _ _ _ (vs.drop (m1)) _ (by omega) (by exact hs1) (by exact hf1))))
      go_wp2
      go_quiet ((go_at_call 14; exact quiet_add (ceq_any _ _ _ _ _ vs _ (by omega) (by exact hs2) (by exact hf2))))
      generalize hw5 : World.drewN (World.drewN w2 _) _ = w5
      have cP5 : w5.cell? ⟨wr.heap.size, 8, none⟩ = some (.slice (some ⟨S', 0, none⟩) (m1 + 1) c') := by rw [← hw5]; exact cP
      have hs5 : w5.cell? ⟨S', m1, none⟩ = some (.iface 52 (.agg #[.int .i64 7])) := by rw [← hw5]; exact hs3
      have hb5 : Below w.heap.size w w5 := by rw [← hw5]; exact below_drewN (below_drewN hb2 _) _
      clear hw5 cP hs3 hb2 hs1 hs2 hf1 hf2 cC cB cA cL cR
      go_wp2
      go_ret
      exact ⟨rfl, hb5.alloc hb5.size _⟩

end Go.Proofs.YbulkcobyFmt
