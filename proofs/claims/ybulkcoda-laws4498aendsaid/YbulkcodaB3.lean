import Derived.Test.YbulkcodaB2
namespace Go.Proofs.Ybulkcoda
open Go.RowKit

/-- The streams of element i of the argument. -/
def InS (w : World) (sa : Option Addr) (n : Nat) (R M Q : Nat → Nat) : Prop := (n = 0 ∨ ∃ D o, sa = some ⟨D, o, none⟩ ∧
  ∀ j, j < n → w.cell? ⟨D, o + j * 3, none⟩ = some (.float .f64 (R j)) ∧ w.cell? ⟨D, o + j * 3 + 1, none⟩ = some (.float .f64 (M j)) ∧ w.cell? ⟨D, o + j * 3 + 1 + 1, none⟩ = some (.float .f64 (Q j)))
theorem InS.below {w w' : World} {sa : Option Addr} {n : Nat} {R M Q : Nat → Nat} (h : InS w sa n R M Q) (hb : Below w.heap.size w w') : InS w' sa n R M Q := by
  rcases h with h | ⟨D, o, h1, h2⟩
  · exact Or.inl h
  · refine Or.inr ⟨D, o, h1, fun j hj => ?_⟩
    obtain ⟨a, b, c⟩ := h2 j hj
    exact ⟨(hb.cell (World.block_lt_of_cell? _ _ a)).trans a, (hb.cell (World.block_lt_of_cell? _ _ b)).trans b, (hb.cell (World.block_lt_of_cell? _ _ c)).trans c⟩

theorem ta78 (w : World) (v : Value) : (Instr.typeAssert (.iface 78 v) 42 78 true).run Yba.prog w = .ok (.tuple #[v, .bool true]) w := by kernel_rfl
theorem run_neq_ptr78 (w : World) (b : Nat) : (binOp .neq 78 (.pointer (some ⟨b, 0, none⟩)) (.pointer none)).run Yba.prog w = .ok (.bool true) w := by kernel_rfl

/-- What region 19 reads, behind its store. -/
theorem four_set {W : World} {a b c d : Addr} {va vb vc vd x y z : Value} {T k1 k2 k3 : Nat} (h : W.cell? a = some va ∧ W.cell? b = some vb ∧ W.cell? c = some vc ∧ W.cell? d = some vd) (ha : ¬ T = a.block) (hb : ¬ T = b.block) (hc : ¬ T = c.block) (hd : ¬ T = d.block) :
    (((W.setCell ⟨T, k1, none⟩ x).setCell ⟨T, k2, none⟩ y).setCell ⟨T, k3, none⟩ z).cell? a = some va ∧ (((W.setCell ⟨T, k1, none⟩ x).setCell ⟨T, k2, none⟩ y).setCell ⟨T, k3, none⟩ z).cell? b = some vb ∧
    (((W.setCell ⟨T, k1, none⟩ x).setCell ⟨T, k2, none⟩ y).setCell ⟨T, k3, none⟩ z).cell? c = some vc ∧ (((W.setCell ⟨T, k1, none⟩ x).setCell ⟨T, k2, none⟩ y).setCell ⟨T, k3, none⟩ z).cell? d = some vd := by
  have kk : Kept [T] W (((W.setCell ⟨T, k1, none⟩ x).setCell ⟨T, k2, none⟩ y).setCell ⟨T, k3, none⟩ z) := (((Kept.refl [T] W).setCell (p := ⟨T, k1, none⟩) (Or.inl (by simp)) _).setCell (p := ⟨T, k2, none⟩) (Or.inl (by simp)) _).setCell (p := ⟨T, k3, none⟩) (Or.inl (by simp)) _
  exact ⟨kk.cellSome h.1 (by simp; omega), kk.cellSome h.2.1 (by simp; omega), kk.cellSome h.2.2.1 (by simp; omega), kk.cellSome h.2.2.2 (by simp; omega)⟩

set_option maxRecDepth 100000 in
set_option maxHeartbeats 2000000 in
theorem bfirst (I off n c : Nat) (nm : Nat → ByteArray) (sa : Nat → Option Addr) (sl sc : Nat → Nat) (R M Q : Nat → Nat → Nat) (w : World) (hn : n ≤ 1024)
    (h0 : ∀ i, i < n → w.cell? ⟨I, off + i * 2, none⟩ = some (.string (nm i))) (h1 : ∀ i, i < n → w.cell? ⟨I, off + i * 2 + 1, none⟩ = some (.slice (sa i) (sl i) (sc i))) (hs : ∀ i, i < n → InS w (sa i) (sl i) (R i) (M i) (Q i)) (hnone : ∀ i, i < n → sa i = none → sl i = 0) :
    Calls Yba.prog 4 #[.slice (some ⟨I, off, none⟩) n c] w fun e w' => e = .returned (.bool true) ∧ Below w.heap.size w w' := by
  have hd : decide ((1024 : Int) < (n : Int)) = false := by simp; omega
  have hmk := fun w => make69 n hn w
  have q66 : ∀ (w : World) (a : Option Addr) (n c n' c' : Nat), (binOp .neq 66 (.slice a n c) (.slice none n' c')).run Yba.prog w = .ok (.bool (!a.isNone)) w := fun w a n c n' c' => run_neq_slice_nil_any w _ _ a n c n' c' Yba.underlying66
  go_enter Yba.func4, Yba.ntmps4
  go_wp2
  go_loop [20] (fun i => ∃ k : Nat, k ≤ n ∧ i = .int .i64 k ∧ ∀ j, j < k → sl j ≤ 1024) (fun i => n - (intOf i).toNat)
  case atStart => exact ⟨0, Nat.zero_le _, rfl, fun j hj => absurd hj (Nat.not_lt_zero j)⟩
  case round =>
    obtain ⟨k, hk, rfl, hle⟩ := hrel
    by_cases hlt : k < n
    · have c1 := h1 k hlt
      have b1 : (0 : Int) ≤ (k : Int) := by omega
      have b2 : (k : Int) < (n : Int) := by omega
      have Hle := hide hle
      clear h0 h1 hs hnone hle
      by_cases hbig : 1024 < sl k
      · have hbd : (1024 : Int) < (sl k : Int) := by omega
        go_wp2
        go_ret
        exact ⟨rfl, Below.refl _ _⟩
      · have hbd : ¬ (1024 : Int) < (sl k : Int) := by omega
        go_wp2
        go_round
        case rel => exact ⟨k + 1, by omega, by go_num, fun j hj => by
          by_cases e : j = k
          · subst e; omega
          · exact unhide Hle j (by omega)⟩
        case measure => simp [intOf]; omega
    · obtain rfl : k = n := by omega
      have Hle := hide hle
      clear hle
      go_wp2
      have hB0 : Built (w.alloc (.cells (mkB k) 76)) w.heap.size k 0 nm sl R M := Built.zero (MapKept.heap_alloc w _).1
      go_loopw [36] (fun i wr => ∃ q : Nat, q ≤ k ∧ i = .int .i64 q ∧ Built wr w.heap.size k q nm sl R M ∧ Below w.heap.size w wr) (fun i _ => k - (intOf i).toNat)
      case atStart => exact ⟨0, Nat.zero_le _, rfl, hB0, (Below.refl _ _).alloc (Nat.le_refl _) _⟩
      case round =>
        obtain ⟨q, hq, rfl, hBu, hbw⟩ := hrel
        clear hB0
        by_cases hqk : q < k
        · have c0 := (hbw.cell (World.block_lt_of_cell? _ _ (h0 q hqk))).trans (h0 q hqk)
          have c1 := (hbw.cell (World.block_lt_of_cell? _ _ (h1 q hqk))).trans (h1 q hqk)
          have lI : I < w.heap.size := World.block_lt_of_cell? _ _ (h0 q hqk)
          have lB := hBu.lt
          have hsq := hs q hqk
          have hln := unhide Hle q hqk
          have hnq := hnone q hqk
          have b1 : (0 : Int) ≤ (q : Int) := by omega
          have b2 : (q : Int) < (k : Int) := by omega
          have hmk2 := fun w => make70 (sl q) hln w
          obtain ⟨wo, rfl⟩ : ∃ wo : World, wo = wr := ⟨_, rfl⟩
          clear h0 h1 hs hnone hmk
          cases hsa : sa q with
          | none =>
            have hz := hnq hsa
            rw [hsa] at c1
            have R1 := hBu.step (sa := none) (sc := 0) hqk (Or.inl hz)
            rw [hz] at R1
            obtain ⟨v0, e0, f0⟩ := hBu.spot (j := q * 2) (by omega)
            obtain ⟨v1, e1, f1⟩ := hBu.spot (j := q * 2 + 1) (by omega)
            clear hsa hnq hz hsq
            go_wp2
            go_roundw
            case rel => exact ⟨q + 1, by omega, by go_num, R1, (hbw.setCell (p := ⟨w.heap.size, q * 2, none⟩) (Nat.le_refl _) _).setCell (p := ⟨w.heap.size, q * 2 + 1, none⟩) (Nat.le_refl _) _⟩
            case measure => simp [intOf]; omega
          | some a =>
            rw [hsa] at c1 hsq
            have hsw := hsq.below hbw
            have lI2 : I < wo.heap.size := by omega
            clear hnq
            go_wp2
            have f0 : FillS (wo.alloc (.cells (mkS (sl q)) 74)) wo.heap.size (sl q) 0 (R q) (M q) (Q q) := FillS.zero (MapKept.heap_alloc wo _).1
            go_loopw [58] (fun i ws => ∃ p : Nat, p ≤ sl q ∧ i = .int .i64 p ∧ FillS ws wo.heap.size (sl q) p (R q) (M q) (Q q) ∧ Kept [wo.heap.size] (wo.alloc (.cells (mkS (sl q)) 74)) ws) (fun i _ => sl q - (intOf i).toNat)
            case atStart => exact ⟨0, Nat.zero_le _, rfl, f0, Kept.refl _ _⟩
            case round =>
              obtain ⟨p, hp, rfl, hfs, hks⟩ := hrel
              have ks : Kept [wo.heap.size] wo wr := ((Kept.refl _ wo).alloc _).trans hks
              have lT := hfs.lt
              by_cases hpl : p < sl q
              · obtain ⟨D, o, hDo, hcc⟩ : ∃ D o, (some a : Option Addr) = some ⟨D, o, none⟩ ∧ ∀ j, j < sl q → wo.cell? ⟨D, o + j * 3, none⟩ = some (.float .f64 (R q j)) ∧ wo.cell? ⟨D, o + j * 3 + 1, none⟩ = some (.float .f64 (M q j)) ∧ wo.cell? ⟨D, o + j * 3 + 1 + 1, none⟩ = some (.float .f64 (Q q j)) := by
                  rcases hsw with h | h
                  · omega
                  · exact h
                obtain rfl : a = ⟨D, o, none⟩ := by simpa using hDo
                obtain ⟨g0, g1, g2⟩ := hcc p hpl
                have lD : D < wo.heap.size := World.block_lt_of_cell? _ _ g0
                have d0 := ks.cellSome g0 (by simp; omega)
                have d1 := ks.cellSome g1 (by simp; omega)
                have d2 := ks.cellSome g2 (by simp; omega)
                have c1' := ks.cellSome c1 (by simp; omega)
                obtain ⟨v0, e0, x0⟩ := hfs.spot (k := p * 3) (by omega)
                obtain ⟨v1, e1, x1⟩ := hfs.spot (k := p * 3 + 1) (by omega)
                obtain ⟨v2, e2, x2⟩ := hfs.spot (k := p * 3 + 1 + 1) (by omega)
                have F1 := hfs.step hpl
                have b3 : (0 : Int) ≤ (p : Int) := by omega
                have b4 : (p : Int) < (sl q : Int) := by omega
                have hsf := fun (w : World) (a : Addr) (b : Nat) (m : Mode) => run_store Yba.prog w a (.float .f64 b) m rfl
                have n1 : ¬ wo.heap.size = I := by omega
                have n2 : ¬ wo.heap.size = D := by omega
                clear hcc hfs hsw hsq ks f0 hDo g0 g1 g2 c0 c1 hBu hmk2
                go_wp2
                go_region_held3 (fun w' => w'.cell? ⟨I, off + q * 2 + 1, none⟩ = some (.slice (some ⟨D, o, none⟩) (sl q) (sc q)) ∧ w'.cell? ⟨D, o + p * 3, none⟩ = some (.float .f64 (R q p)) ∧ w'.cell? ⟨D, o + p * 3 + 1, none⟩ = some (.float .f64 (M q p)) ∧ w'.cell? ⟨D, o + p * 3 + 1 + 1, none⟩ = some (.float .f64 (Q q p)))
                  (first | exact ⟨c1', d0, d1, d2⟩ | exact four_set (by assumption) n1 n2 n2 n2)
                  (fail)
                go_wp2
                go_roundw
                case rel => exact ⟨p + 1, by omega, by go_num, F1, (((hks.setCell (p := ⟨wo.heap.size, p * 3, none⟩) (Or.inl (by simp)) _).setCell (p := ⟨wo.heap.size, p * 3 + 1, none⟩) (Or.inl (by simp)) _).setCell (p := ⟨wo.heap.size, p * 3 + 1 + 1, none⟩) (Or.inl (by simp)) _).drew⟩
                case measure => simp [intOf]; omega
              · obtain rfl : p = sl q := by omega
                have hst := hfs.streams
                have hBr : Built wr w.heap.size k q nm sl R M := hBu.keptNew ks
                have R1 := hBr.step (sa := some ⟨wo.heap.size, 0, none⟩) (sc := sl q) hqk (Or.inr ⟨wo.heap.size, Q q, rfl, lB, hst⟩)
                have hbr : Below w.heap.size w wr := hbw.trans (ks.below (by omega) (by simp; omega))
                obtain ⟨v0, e0, f0⟩ := hBr.spot (j := q * 2) (by omega)
                obtain ⟨v1, e1, f1⟩ := hBr.spot (j := q * 2 + 1) (by omega)
                have c0' := ks.cellSome c0 (by simp; omega)
                clear hsw hsq hst hBu hBr c0 c1 ks hks hfs hmk2
                go_wp2
                go_roundw
                case rel => exact ⟨q + 1, by omega, by go_num, R1, (hbr.setCell (p := ⟨w.heap.size, q * 2, none⟩) (Nat.le_refl _) _).setCell (p := ⟨w.heap.size, q * 2 + 1, none⟩) (Nat.le_refl _) _⟩
                case measure => simp [intOf]; omega
        · obtain rfl : q = k := by omega
          obtain ⟨ta, tc, t0, t1, t2⟩ := hBu.out
          clear hBu
          go_wp2_with fail
          refine (saturated_any w.heap.size q q nm ta sl tc R M wr hn (unhide Hle) t0 t1 t2).mono ?_
          rintro e w2 ⟨hres, hk2⟩
          have hb2 : Below w.heap.size w w2 := hbw.trans (hk2.below hbw.size (by simp))
          clear t0 t1 t2 hk2 hbw
          rcases hres with ⟨i0, E, u, hi0, hno, hyes, rfl, hE, hu⟩ | ⟨hall, rfl⟩
          · have hS := hide hyes
            have Hno := hide hno
            clear hyes hno
            go_wp2
            go_loopw [108] (fun i wr => ∃ p : Nat, p ≤ i0 ∧ i = .int .i64 p ∧ Kept [] w2 wr) (fun i _ => q - (intOf i).toNat)
            case atStart => exact ⟨0, Nat.zero_le _, rfl, Kept.refl _ _⟩
            case round =>
              obtain ⟨p, hp, rfl, hkp⟩ := hrel
              obtain ⟨wo, rfl⟩ : ∃ wo : World, wo = wr := ⟨_, rfl⟩
              have hbo : Below w.heap.size w wo := hb2.trans (hkp.below hb2.size (by simp))
              by_cases hpq : p < i0
              · have hsf0 : sat (sumF (R p) (M p) (sl p)) = false := unhide Hno p hpq
                have hpq' : p < q := by omega
                have c0 := (hbo.cell (World.block_lt_of_cell? _ _ (h0 p hpq'))).trans (h0 p hpq')
                have c1 := (hbo.cell (World.block_lt_of_cell? _ _ (h1 p hpq'))).trans (h1 p hpq')
                have hsp := (hs p hpq').below hbo
                have hlp := unhide Hle p hpq'
                have lI : I < wo.heap.size := World.block_lt_of_cell? _ _ c0
                have b1 : (0 : Int) ≤ (p : Int) := by omega
                have b2 : (p : Int) < (q : Int) := by omega
                have fm := fun w t x y => run_fmul (P := Yba.prog) w t x y
                have fa := fun w t x y => run_fadd (P := Yba.prog) w t x y
                have hsf := fun (w : World) (a : Addr) (b : Nat) (m : Mode) => run_store Yba.prog w a (.float .f64 b) m rfl
                have HS0 := hide hsf0
                clear h0 h1 hs hnone hsf0 hmk q66
                cases hsa : sa p
                all_goals
                  rw [hsa] at c1 hsp
                  go_wp2
                  go_loopw [10, 117] (fun u i ws => ∃ j : Nat, j ≤ sl p ∧ i = .int .i64 j ∧ (∃ x, u = .float .f64 x ∧ Res (sumF (R p) (M p) j) x) ∧ Kept [] wo ws) (fun _ i _ => sl p - (intOf i).toNat)
                  case atStart => exact ⟨0, Nat.zero_le _, rfl, ⟨0, rfl, rfl⟩, Kept.refl _ _⟩
                  case round =>
                    obtain ⟨j, hj, rfl, ⟨x, rfl, hx⟩, hkj⟩ := hrel
                    by_cases hjl : j < sl p
                    · obtain ⟨D, o, hDo, hcc⟩ : ∃ D o, _ = some (⟨D, o, none⟩ : Addr) ∧ ∀ j, j < sl p → wo.cell? ⟨D, o + j * 3, none⟩ = some (.float .f64 (R p j)) ∧ wo.cell? ⟨D, o + j * 3 + 1, none⟩ = some (.float .f64 (M p j)) ∧ wo.cell? ⟨D, o + j * 3 + 1 + 1, none⟩ = some (.float .f64 (Q p j)) := by
                        rcases hsp with h | h
                        · omega
                        · exact h
                      cases hDo
                      all_goals
                        obtain ⟨g0, g1, g2⟩ := hcc j hjl
                        have d0 := hkj.cellSome g0 (by simp)
                        have d1 := hkj.cellSome g1 (by simp)
                        have d2 := hkj.cellSome g2 (by simp)
                        have lD : D < wr.heap.size := World.block_lt_of_cell? _ _ d0
                        have b3 : (0 : Int) ≤ (j : Int) := by omega
                        have b4 : (j : Int) < (sl p : Int) := by omega
                        clear hcc hsp g0 g1 g2 c0 c1 hsa
                        go_wp2
                        go_roundw
                        case rel => exact ⟨j + 1, by omega, by go_num, ⟨_, rfl, step_res hx (fV_res .mul (R p j) (M p j) _) (fV_res .add x _ _)⟩, (hkj.alloc _).drewN _⟩
                        case measure => simp [intOf]; omega
                    · obtain rfl : j = sl p := by omega
                      have hg := ge1_res hx
                      rw [unhide HS0] at hg
                      unfold ge1 at hg
                      rw [Bool.or_eq_false_iff] at hg
                      obtain ⟨g1, g2⟩ := hg
                      have K3 : Kept [] w2 wr := hkp.trans hkj
                      clear hsp hsa c0 c1 hx
                      go_wp2
                      go_roundw
                      case rel => exact ⟨p + 1, by omega, by go_num, K3⟩
                      case measure => simp [intOf]; omega
              · obtain rfl : p = i0 := by omega
                have hsf0 : sat (sumF (R p) (M p) (sl p)) = true := unhide hS
                have c0 := (hbo.cell (World.block_lt_of_cell? _ _ (h0 p hi0))).trans (h0 p hi0)
                have c1 := (hbo.cell (World.block_lt_of_cell? _ _ (h1 p hi0))).trans (h1 p hi0)
                have hsp := (hs p hi0).below hbo
                have hlp := unhide Hle p hi0
                have lI : I < wo.heap.size := World.block_lt_of_cell? _ _ c0
                have b1 : (0 : Int) ≤ (p : Int) := by omega
                have b2 : (p : Int) < (q : Int) := by omega
                have fm := fun w t x y => run_fmul (P := Yba.prog) w t x y
                have fa := fun w t x y => run_fadd (P := Yba.prog) w t x y
                have hsf := fun (w : World) (a : Addr) (b : Nat) (m : Mode) => run_store Yba.prog w a (.float .f64 b) m rfl
                have HS0 := hide hsf0
                clear h0 h1 hs hnone hsf0 hmk q66
                cases hsa : sa p
                all_goals
                  rw [hsa] at c1 hsp
                  go_wp2
                  go_loopw [10, 117] (fun u i ws => ∃ j : Nat, j ≤ sl p ∧ i = .int .i64 j ∧ (∃ x, u = .float .f64 x ∧ Res (sumF (R p) (M p) j) x) ∧ Kept [] wo ws) (fun _ i _ => sl p - (intOf i).toNat)
                  case atStart => exact ⟨0, Nat.zero_le _, rfl, ⟨0, rfl, rfl⟩, Kept.refl _ _⟩
                  case round =>
                    obtain ⟨j, hj, rfl, ⟨x, rfl, hx⟩, hkj⟩ := hrel
                    by_cases hjl : j < sl p
                    · obtain ⟨D, o, hDo, hcc⟩ : ∃ D o, _ = some (⟨D, o, none⟩ : Addr) ∧ ∀ j, j < sl p → wo.cell? ⟨D, o + j * 3, none⟩ = some (.float .f64 (R p j)) ∧ wo.cell? ⟨D, o + j * 3 + 1, none⟩ = some (.float .f64 (M p j)) ∧ wo.cell? ⟨D, o + j * 3 + 1 + 1, none⟩ = some (.float .f64 (Q p j)) := by
                        rcases hsp with h | h
                        · omega
                        · exact h
                      cases hDo
                      all_goals
                        obtain ⟨g0, g1, g2⟩ := hcc j hjl
                        have d0 := hkj.cellSome g0 (by simp)
                        have d1 := hkj.cellSome g1 (by simp)
                        have d2 := hkj.cellSome g2 (by simp)
                        have lD : D < wr.heap.size := World.block_lt_of_cell? _ _ d0
                        have b3 : (0 : Int) ≤ (j : Int) := by omega
                        have b4 : (j : Int) < (sl p : Int) := by omega
                        clear hcc hsp g0 g1 g2 c0 c1 hsa
                        go_wp2
                        go_roundw
                        case rel => exact ⟨j + 1, by omega, by go_num, ⟨_, rfl, step_res hx (fV_res .mul (R p j) (M p j) _) (fV_res .add x _ _)⟩, (hkj.alloc _).drewN _⟩
                        case measure => simp [intOf]; omega
                    · obtain rfl : j = sl p := by omega
                      have hg := ge1_res hx
                      rw [unhide HS0] at hg
                      have ho : FloatKind.f64.format.order x 4607182418800017408 = some .gt ∨ FloatKind.f64.format.order x 4607182418800017408 = some .eq := by
                        unfold ge1 at hg
                        rw [Bool.or_eq_true] at hg
                        rcases hg with h | h
                        · exact Or.inl (by simpa using h)
                        · exact Or.inr (by simpa using h)
                      obtain ⟨hux, hnn⟩ := res_of_sat hu hx (unhide HS0)
                      have hoe : FloatKind.f64.format.order u x = some .eq := by rw [← hux]; exact order_self hnn
                      have K3 : Kept [] w2 wr := hkp.trans hkj
                      have hEr := (K3.block E (lt_of_block hE) (by simp)).trans hE
                      have ce0 : wr.cell? ⟨E, 0, none⟩ = some (.string (nm p)) := by rw [cell_of_heap hEr]; rfl
                      have ce1 : wr.cell? ⟨E, 1, none⟩ = some (.float .f64 u) := by rw [cell_of_heap hEr]; rfl
                      have c0' := hkj.cellSome c0 (by simp)
                      have hb3 : Below w.heap.size w wr := hbo.trans (hkj.below hbo.size (by simp))
                      have q1 := ta78
                      have q2 := run_neq_ptr78
                      clear hsp hsa c0 c1 hx hg hux hnn hEr hE hu
                      rcases ho with ho | ho
                      all_goals
                        go_wp2
                        go_quiet (fail)
                        go_wp2
                        go_ret
                        exact ⟨rfl, below_drewN hb3 _⟩
          · have Hall := hide hall
            clear hall
            go_wp2
            go_loopw [108] (fun i wr => ∃ p : Nat, p ≤ q ∧ i = .int .i64 p ∧ Kept [] w2 wr) (fun i _ => q - (intOf i).toNat)
            case atStart => exact ⟨0, Nat.zero_le _, rfl, Kept.refl _ _⟩
            case round =>
              obtain ⟨p, hp, rfl, hkp⟩ := hrel
              obtain ⟨wo, rfl⟩ : ∃ wo : World, wo = wr := ⟨_, rfl⟩
              have hbo : Below w.heap.size w wo := hb2.trans (hkp.below hb2.size (by simp))
              by_cases hpq : p < q
              · have hsf0 : sat (sumF (R p) (M p) (sl p)) = false := unhide Hall p hpq
                have c0 := (hbo.cell (World.block_lt_of_cell? _ _ (h0 p hpq))).trans (h0 p hpq)
                have c1 := (hbo.cell (World.block_lt_of_cell? _ _ (h1 p hpq))).trans (h1 p hpq)
                have hsp := (hs p hpq).below hbo
                have hlp := unhide Hle p hpq
                have lI : I < wo.heap.size := World.block_lt_of_cell? _ _ c0
                have b1 : (0 : Int) ≤ (p : Int) := by omega
                have b2 : (p : Int) < (q : Int) := by omega
                have fm := fun w t x y => run_fmul (P := Yba.prog) w t x y
                have fa := fun w t x y => run_fadd (P := Yba.prog) w t x y
                have hsf := fun (w : World) (a : Addr) (b : Nat) (m : Mode) => run_store Yba.prog w a (.float .f64 b) m rfl
                have HS0 := hide hsf0
                clear h0 h1 hs hnone hsf0 hmk q66
                cases hsa : sa p
                all_goals
                  rw [hsa] at c1 hsp
                  go_wp2
                  go_loopw [10, 117] (fun u i ws => ∃ j : Nat, j ≤ sl p ∧ i = .int .i64 j ∧ (∃ x, u = .float .f64 x ∧ Res (sumF (R p) (M p) j) x) ∧ Kept [] wo ws) (fun _ i _ => sl p - (intOf i).toNat)
                  case atStart => exact ⟨0, Nat.zero_le _, rfl, ⟨0, rfl, rfl⟩, Kept.refl _ _⟩
                  case round =>
                    obtain ⟨j, hj, rfl, ⟨x, rfl, hx⟩, hkj⟩ := hrel
                    by_cases hjl : j < sl p
                    · obtain ⟨D, o, hDo, hcc⟩ : ∃ D o, _ = some (⟨D, o, none⟩ : Addr) ∧ ∀ j, j < sl p → wo.cell? ⟨D, o + j * 3, none⟩ = some (.float .f64 (R p j)) ∧ wo.cell? ⟨D, o + j * 3 + 1, none⟩ = some (.float .f64 (M p j)) ∧ wo.cell? ⟨D, o + j * 3 + 1 + 1, none⟩ = some (.float .f64 (Q p j)) := by
                        rcases hsp with h | h
                        · omega
                        · exact h
                      cases hDo
                      all_goals
                        obtain ⟨g0, g1, g2⟩ := hcc j hjl
                        have d0 := hkj.cellSome g0 (by simp)
                        have d1 := hkj.cellSome g1 (by simp)
                        have d2 := hkj.cellSome g2 (by simp)
                        have lD : D < wr.heap.size := World.block_lt_of_cell? _ _ d0
                        have b3 : (0 : Int) ≤ (j : Int) := by omega
                        have b4 : (j : Int) < (sl p : Int) := by omega
                        clear hcc hsp g0 g1 g2 c0 c1 hsa
                        go_wp2
                        go_roundw
                        case rel => exact ⟨j + 1, by omega, by go_num, ⟨_, rfl, step_res hx (fV_res .mul (R p j) (M p j) _) (fV_res .add x _ _)⟩, (hkj.alloc _).drewN _⟩
                        case measure => simp [intOf]; omega
                    · obtain rfl : j = sl p := by omega
                      have hg := ge1_res hx
                      rw [unhide HS0] at hg
                      unfold ge1 at hg
                      rw [Bool.or_eq_false_iff] at hg
                      obtain ⟨g1, g2⟩ := hg
                      have K3 : Kept [] w2 wr := hkp.trans hkj
                      clear hsp hsa c0 c1 hx
                      go_wp2
                      go_roundw
                      case rel => exact ⟨p + 1, by omega, by go_num, K3⟩
                      case measure => simp [intOf]; omega
              · obtain rfl : p = q := by omega
                clear h0 h1 hs hnone
                go_wp2
                go_ret
                exact ⟨rfl, hbo⟩
end Go.Proofs.Ybulkcoda
