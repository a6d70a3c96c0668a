import Derived.Test.YbulkcobyFmtW14
import Derived.Test.YbulkcobyFmtW09
namespace Go.Proofs.YbulkcobyFmt
open Go.RowKit Go.Extern.Stop Go.Stop Go.Extern

set_option maxRecDepth 100000 in
set_option maxHeartbeats 1000000 in
theorem apply_f2 (va : Option Addr) (m vc l : Nat) (a pos : Int) (vs : List Nat) (w : World) (hm : m ≤ 1024) (hkc : m ≤ vc) (hv : Floats w va m vs) (ha0 : 0 ≤ a) (ha1 : a ≤ 255) (n : Nat) (Hn : Hid (a % 6 = (n : Int))) (hn1 : n ≤ 0) (hnm : n ≤ m) (_hn5 : n ≤ 5) :
    Calls Ybaf.prog 5 #[.slice va m vc, .int .u8 a, .bool false, .float .f64 l, .int .i64 pos] w fun e w' => e = .returned (.bool true) ∧ Below w.heap.size w w' := by
  have hmk := fun w => make39 m hm w
  have hd : decide ((1024 : Int) < (m : Int)) = false := by simp; omega
  have hmf : ∀ (fn : Fn) (first cap : Array Value) (w : World), (Instr.makeFunc fn first cap).run Ybaf.prog w = .ok (.func fn first cap) w := fun _ _ _ _ => rfl
  go_enter Ybaf.func5, Ybaf.ntmps5
  go_wp2
  have k1 : Kept [] w ((w.alloc (.cells #[.float .f64 l] 25)).alloc (.cells (mk0 m) 41)) := ((Kept.refl [] w).alloc _).alloc _
  have f0 : Filled ((w.alloc (.cells #[.float .f64 l] 25)).alloc (.cells (mk0 m) 41)) (w.heap.size + 1) m 0 vs := Filled.zero (by have h := (MapKept.heap_alloc (w.alloc (.cells #[.float .f64 l] 25)) (.cells (mk0 m) 41)).1; rwa [World.size_alloc] at h)
  have hlo : ((w.alloc (.cells #[.float .f64 l] 25)).alloc (.cells (mk0 m) 41)).cell? ⟨w.heap.size, 0, none⟩ = some (.float .f64 l) := by simp [go_sem]
  go_loopw [34] (fun i wr => ∃ k : Nat, k ≤ m ∧ i = .int .i64 k ∧ Filled wr (w.heap.size + 1) m k vs ∧ Kept [w.heap.size + 1] ((w.alloc (.cells #[.float .f64 l] 25)).alloc (.cells (mk0 m) 41)) wr) (fun i _ => m - (intOf i).toNat)
  case atStart => exact ⟨0, Nat.zero_le _, rfl, f0, Kept.refl _ _⟩
  case round =>
    obtain ⟨k, hk, rfl, hfl, hkr⟩ := hrel
    have hbw : Below w.heap.size w wr := (k1.below (Nat.le_refl _) (by simp)).trans (hkr.below (by simp; omega) (by simp))
    have hvr := hv.kept hbw
    by_cases hkm : k < m
    · obtain ⟨V, off, rfl, hcv⟩ : ∃ V off, va = some ⟨V, off, none⟩ ∧ ∀ j, j < m → wr.cell? ⟨V, off + j, none⟩ = some (.float .f64 (vs.getD j 0)) := by
        rcases hvr with h | h
        · omega
        · exact h
      have hc := hcv k hkm
      obtain ⟨v0, hs, hsf⟩ := hfl.spot hkm
      have b1 : (0 : Int) ≤ (k : Int) := by omega
      have b2 : (k : Int) < (m : Int) := by omega
      have hst := hfl.step hkm
      have hkk : Kept [w.heap.size + 1] ((w.alloc (.cells #[.float .f64 l] 25)).alloc (.cells (mk0 m) 41)) (wr.setCell ⟨w.heap.size + 1, k, none⟩ (.iface 26 (.float .f64 (vs.getD k 0)))) := hkr.setCell (p := ⟨w.heap.size + 1, k, none⟩) (Or.inl (by simp)) _
      clear hcv hvr hfl hbw hv hkr
      go_wp2
      go_roundw
      case rel => exact ⟨k + 1, by omega, by go_num, hst, hkk⟩
      case measure => simp [intOf]; omega
    · obtain rfl : k = m := by omega
      have hrow := hfl.row
      have lB : w.heap.size + 1 < wr.heap.size := hrow.lt
      clear f0 k1 hkr
      go_wp2_with fail
      rw [Hn.out]
      refine (grid_grow wr.heap.size (w.heap.size + 1) k n k (wr.heap.size + 1) (wr.heap.size + 1 + 1 + 1 + 1) (wr.heap.size + 1 + 1) (wr.heap.size + 1 + 1 + 1) pos (nodes vs k) (.pointer none) (.slice none 0 0) (.float .f64 0) _ ?_ ?_ hn1 hnm (Nat.le_refl _) (Nat.le_refl _) hm (nodes_length vs k) (hrow.kept (ex := []) (by repeat (first | exact Kept.refl _ _ | apply Kept.alloc)) (by simp)) nodes_one ⟨?_, ?_⟩ ⟨?_, ?_⟩ ⟨?_, ?_⟩ ⟨?_, ?_⟩ ?_).mono ?_
      · simp [go_sem]
      · simp [go_sem]
      · simp [go_sem]
      · simp [go_sem]
      · simp [go_sem]
      · simp [go_sem]
      · simp [go_sem]
      · simp [go_sem]
      · simp [go_sem]
      · simp [go_sem]
      · simp; omega
      rintro e w2 ⟨rfl, g2, cap2, hk2, oC, oB, oA, oL, rg2, hg2, S', c', cP, hc', rS⟩
      have kw : Kept [wr.heap.size, w.heap.size + 1, wr.heap.size + 1, wr.heap.size + 1 + 1 + 1 + 1, wr.heap.size + 1 + 1, wr.heap.size + 1 + 1 + 1] wr w2 := Kept.trans (by repeat (first | exact Kept.refl _ _ | apply Kept.alloc)) hk2
      have cR := hk2.cellSome (p := ⟨wr.heap.size + 1 + 1 + 1 + 1 + 1, 0, none⟩) (v := .int .i64 (n : Int)) (by simp [go_sem]) (by simp; omega)
      have hb2 : Below w.heap.size w w2 := hbw.trans (kw.below (by omega) (by simp; omega))
      have hv2 := hv.kept hb2
      have hz2 : w.heap.size + 1 < w2.heap.size := Nat.lt_of_lt_of_le lB kw.size
      obtain ⟨cC, _⟩ := oC
      obtain ⟨cB, _⟩ := oB
      obtain ⟨cA, _⟩ := oA
      obtain ⟨cL, _⟩ := oL
      have hs1 : ∀ j, j < n → w2.cell? ⟨g2, j, none⟩ = some (.iface 26 (.float .f64 ((vs.drop (k - n)).getD j 0))) := fun j hj => args_cell rg2 (by omega)
      have hs2 : ∀ j, j < k - n → w2.cell? ⟨S', j, none⟩ = some (.iface 26 (.float .f64 (vs.getD j 0))) := fun j hj => stack_cell rS (by omega) hj
      have hs3 : w2.cell? ⟨S', k - n, none⟩ = some (.iface 52 (.agg #[.int .i64 7])) := stack_top rS (by omega)
      have hf1 : Floats w2 (if vc = k - n then va else va.map (·.add (k - n))) n (vs.drop (k - n)) := by have h := hv2.mid (l := k - n) (h := k) (c := vc) (by omega) (Nat.le_refl _) hkc; rwa [show k - (k - n) = n by omega] at h
      have hf2 : Floats w2 va (k - n) vs := hv2.low (by omega)
      obtain ⟨va1, hva1⟩ : ∃ x, x = (if vc = k - n then va else va.map (·.add (k - n))) := ⟨_, rfl⟩
      rw [← hva1] at hf1
      have hb : ((k : Int) - (n : Int)) = ((k - n : Nat) : Int) := by omega
      have hsl1 : ∀ w, (Instr.slice 38 (.slice va k vc) (some (.int .i64 ((k : Int) - (n : Int)))) (some (.int .i64 (k : Int))) none).run Ybaf.prog w = .ok (.slice va1 n (vc - (k - n))) w := fun w => by
        rw [hb, slice38_both w va k vc (k - n) k (by omega) hkc, ← hva1, show k - (k - n) = n by omega]
      have hsl2 : ∀ w, (Instr.slice 38 (.slice va k vc) none (some (.int .i64 ((k : Int) - (n : Int)))) none).run Ybaf.prog w = .ok (.slice va (k - n) vc) w := fun w => by
        rw [hb]; exact slice38_high w va k vc (k - n) (by omega)
      obtain ⟨i0, hi, hz0, hz1, hz9⟩ := info_parts info41
      have hsl3 : ∀ w, (Instr.slice 39 (.slice (some ⟨S', 0, none⟩) (k - n + 1) c') none (some (.int .i64 ((k : Int) - (n : Int)))) none).run Ybaf.prog w = .ok (.slice (some ⟨S', 0, none⟩) (k - n) c') w := fun w =>
        slice_high w Ybaf.underlying39 hi S' 0 (k - n + 1) c' (k - n) _ hb (by omega)
      have q1 := ta52
      have q2 := run_neq_nil28
      have q3 := run_neq_ptr49
      have q4 := bits15
      have b1 : ¬ ((k : Int) < (n : Int)) := by omega
      have b2 : (n : Int) ≤ (k : Int) := by omega
      have hwr : IntKind.i64.wrap ((k : Int) - (n : Int)) = (k : Int) - (n : Int) := by rw [IntKind.wrap_i64]; omega
      clear hk2 kw hvr hrow rg2 rS hfl hbw hv hv2 hi hz0 hz1 hz9 hva1 hb
      go_wp2
      go_quiet (fail)
      go_wp2
      go_quiet ((go_at_call 14; exact quiet_add (ceq_any _ _ _ _ _ (vs.drop (k - n)) _ (by omega) (by exact hs1) (by exact hf1))))
      go_wp2
      go_quiet ((go_at_call 14; exact quiet_add (ceq_any _ _ _ _ _ vs _ (by omega) (by exact hs2) (by exact hf2))))
      generalize hw5 : World.drewN (World.drewN w2 _) _ = w5
      have cP5 : w5.cell? ⟨wr.heap.size, 8, none⟩ = some (.slice (some ⟨S', 0, none⟩) (k - n + 1) c') := by rw [← hw5]; exact cP
      have hs5 : w5.cell? ⟨S', k - n, none⟩ = some (.iface 52 (.agg #[.int .i64 7])) := by rw [← hw5]; exact hs3
      have hb5 : Below w.heap.size w w5 := by rw [← hw5]; exact below_drewN (below_drewN hb2 _) _
      clear hw5 cP hs3 hb2 hs1 hs2 hf1 hf2 cC cB cA cL cR
      go_wp2
      go_ret
      exact ⟨rfl, hb5.alloc hb5.size _⟩
end Go.Proofs.YbulkcobyFmt
