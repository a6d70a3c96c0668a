import Derived.Test.YbulkcodaE1
namespace Go.Proofs.Ybulkcoda
open Go.RowKit

theorem prod_le (x y : Nat) : (0 : Int) ≤ ((x : Int) % 16) * ((y : Int) % 16) ∧ ((x : Int) % 16) * ((y : Int) % 16) ≤ 225 := by
  have h : (x % 16) * (y % 16) ≤ 15 * 15 := Nat.mul_le_mul (by omega) (by omega)
  have e : ((x : Int) % 16) * ((y : Int) % 16) = (((x % 16) * (y % 16) : Nat) : Int) := by push_cast; rfl
  omega

theorem isum_step (x y : Nat → Nat) (p : Nat) : Value.int .i64 ((isum (fun j => x j % 16) (fun j => y j % 16) p : Nat) + ((x p : Int) % 16) * ((y p : Int) % 16)) = .int .i64 ((isum (fun j => x j % 16) (fun j => y j % 16) (p + 1) : Nat) : Int) := by
  congr 1

set_option maxRecDepth 100000 in
set_option maxHeartbeats 2000000 in
theorem bexact (I off n c : Nat) (nm : Nat → ByteArray) (sa sb : Nat → Option Addr) (la ca lb cb : Nat → Nat) (X Y : Nat → Nat → Nat) (w : World) (hn : n ≤ 1024)
    (h0 : ∀ i, i < n → w.cell? ⟨I, off + i * 3, none⟩ = some (.string (nm i))) (h1 : ∀ i, i < n → w.cell? ⟨I, off + i * 3 + 1, none⟩ = some (.slice (sa i) (la i) (ca i))) (h2 : ∀ i, i < n → w.cell? ⟨I, off + i * 3 + 1 + 1, none⟩ = some (.slice (sb i) (lb i) (cb i)))
    (hx : ∀ i, i < n → InB w (sa i) (la i) (X i)) (hy : ∀ i, i < n → InB w (sb i) (lb i) (Y i)) :
    Calls Yba.prog 5 #[.slice (some ⟨I, off, none⟩) n c] w fun e w' => e = .returned (.bool true) ∧ Below w.heap.size w w' := by
  have hd : decide ((1024 : Int) < (n : Int)) = false := by simp; omega
  have hmk := fun w => make69 n hn w
  have hmi := fun w => make24 n hn w
  go_enter Yba.func5, Yba.ntmps5
  go_wp2
  go_loop [22] (fun i => ∃ k : Nat, k ≤ n ∧ i = .int .i64 k ∧ ∀ j, j < k → la j ≤ 1024 ∧ lb j ≤ 1024) (fun i => n - (intOf i).toNat)
  case atStart => exact ⟨0, Nat.zero_le _, rfl, fun j hj => absurd hj (Nat.not_lt_zero j)⟩
  case round =>
    obtain ⟨k, hk, rfl, hle⟩ := hrel
    by_cases hlt : k < n
    · have c1 := h1 k hlt
      have c2 := h2 k hlt
      have b1 : (0 : Int) ≤ (k : Int) := by omega
      have b2 : (k : Int) < (n : Int) := by omega
      have Hle := hide hle
      clear h0 h1 h2 hx hy hle
      by_cases hbig : 1024 < la k
      · have hbd : (1024 : Int) < (la k : Int) := by omega
        go_wp2
        go_ret
        exact ⟨rfl, Below.refl _ _⟩
      · have hbd : ¬ (1024 : Int) < (la k : Int) := by omega
        by_cases hbig2 : 1024 < lb k
        · have hbd2 : (1024 : Int) < (lb k : Int) := by omega
          go_wp2
          go_ret
          exact ⟨rfl, Below.refl _ _⟩
        · have hbd2 : ¬ (1024 : Int) < (lb k : Int) := by omega
          go_wp2
          go_round
          case rel => exact ⟨k + 1, by omega, by go_num, fun j hj => by
            by_cases e : j = k
            · subst e; exact ⟨by omega, by omega⟩
            · exact unhide Hle j (by omega)⟩
          case measure => simp [intOf]; omega
    · obtain rfl : k = n := by omega
      have Hle := hide hle
      clear hle
      go_wp2
      have hB0 : Made ((w.alloc (.cells (mkB k) 76)).alloc (.cells (mkI k) 3)) w.heap.size k 0 nm (fun i => min (la i) (lb i)) (fun i j => X i j % 16) (fun i j => Y i j % 16) := by
        have e1 := (MapKept.heap_alloc w (.cells (mkB k) 76)).1
        have e2 := (MapKept.heap_alloc (w.alloc (.cells (mkB k) 76)) (.cells (mkI k) 3)).1
        refine Made.zero ((Below.heap_alloc _ _ _ (by simp)).trans e1) ?_
        simpa using e2
      go_loopw [50] (fun i wr => ∃ q : Nat, q ≤ k ∧ i = .int .i64 q ∧ Made wr w.heap.size k q nm (fun i => min (la i) (lb i)) (fun i j => X i j % 16) (fun i j => Y i j % 16) ∧ Below w.heap.size w wr) (fun i _ => k - (intOf i).toNat)
      case atStart => exact ⟨0, Nat.zero_le _, rfl, hB0, ((Below.refl _ _).alloc (Nat.le_refl _) _).alloc (by simp) _⟩
      case round =>
        obtain ⟨q, hq, rfl, hBu, hbw⟩ := hrel
        clear hB0
        by_cases hqk : q < k
        · have c0 := (hbw.cell (World.block_lt_of_cell? _ _ (h0 q hqk))).trans (h0 q hqk)
          have c1 := (hbw.cell (World.block_lt_of_cell? _ _ (h1 q hqk))).trans (h1 q hqk)
          have c2 := (hbw.cell (World.block_lt_of_cell? _ _ (h2 q hqk))).trans (h2 q hqk)
          have lI : I < w.heap.size := World.block_lt_of_cell? _ _ (h0 q hqk)
          have lB := hBu.lt
          have hxq := (hx q hqk).below hbw
          have hyq := (hy q hqk).below hbw
          obtain ⟨hla, hlb⟩ := unhide Hle q hqk
          have b1 : (0 : Int) ≤ (q : Int) := by omega
          have b2 : (q : Int) < (k : Int) := by omega
          have hmkA := fun w => make70 (la q) hla w
          have hmkB := fun w => make70 (lb q) hlb w
          obtain ⟨wo, rfl⟩ : ∃ wo : World, wo = wr := ⟨_, rfl⟩
          clear h0 h1 h2 hx hy hmk hmi
          obtain ⟨m, hm⟩ : ∃ m, Hid (m = min (la q) (lb q)) := ⟨_, hide rfl⟩
          have hab : lb q < la q ∨ ¬ lb q < la q := by omega
          rcases hab with hba | hba
          all_goals
            first
            | (have hbd : (lb q : Int) < (la q : Int) := by omega
               go_wp2
               have hme : lb q = m := by have := unhide hm; omega
               rw [hme]
               have Hme := hide hme
               clear hme)
            | (have hbd : ¬ (lb q : Int) < (la q : Int) := by omega
               go_wp2
               have hme : la q = m := by have := unhide hm; omega
               rw [hme]
               have Hme := hide hme
               clear hme)
            have hmm : m ≤ la q ∧ m ≤ lb q := by have := unhide hm; omega
            have f0 : FillS (wo.alloc (.cells (mkS m) 74)) wo.heap.size m 0 (fun j => fr (X q j % 16)) (fun j => fr (Y q j % 16)) (fun _ => 0) := FillS.zero (MapKept.heap_alloc wo _).1
            go_loopw [9, 10] (fun s i ws => ∃ p : Nat, p ≤ m ∧ i = .int .i64 p ∧ s = .int .i64 (isum (fun j => X q j % 16) (fun j => Y q j % 16) p : Nat) ∧ FillS ws wo.heap.size m p (fun j => fr (X q j % 16)) (fun j => fr (Y q j % 16)) (fun _ => 0) ∧ Kept [wo.heap.size] (wo.alloc (.cells (mkS m) 74)) ws) (fun _ i _ => m - (intOf i).toNat)
            case atStart => exact ⟨0, Nat.zero_le _, rfl, rfl, f0, Kept.refl _ _⟩
            case round =>
              obtain ⟨p, hp, rfl, rfl, hfs, hks⟩ := hrel
              have ks : Kept [wo.heap.size] wo wr := ((Kept.refl _ wo).alloc _).trans hks
              have lT := hfs.lt
              by_cases hpl : p < m
              · obtain ⟨D, o, hDo, hcc⟩ : ∃ D o, sa q = some (⟨D, o, none⟩ : Addr) ∧ ∀ j, j < la q → wo.cell? ⟨D, o + j, none⟩ = some (.int .u8 (X q j : Nat)) ∧ X q j < 256 := by
                  rcases hxq with h | h
                  · omega
                  · exact h
                obtain ⟨D', o', hDo', hcc'⟩ : ∃ D o, sb q = some (⟨D, o, none⟩ : Addr) ∧ ∀ j, j < lb q → wo.cell? ⟨D, o + j, none⟩ = some (.int .u8 (Y q j : Nat)) ∧ Y q j < 256 := by
                  rcases hyq with h | h
                  · omega
                  · exact h
                obtain ⟨g0, x0⟩ := hcc p (by omega)
                obtain ⟨g1, y0⟩ := hcc' p (by omega)
                have lD : D < wo.heap.size := World.block_lt_of_cell? _ _ g0
                have lD' : D' < wo.heap.size := World.block_lt_of_cell? _ _ g1
                have d0 := ks.cellSome g0 (by simp; omega)
                have d1 := ks.cellSome g1 (by simp; omega)
                have c1' := ks.cellSome c1 (by simp; omega)
                have c2' := ks.cellSome c2 (by simp; omega)
                rw [hDo] at c1'
                rw [hDo'] at c2'
                obtain ⟨v0, e0, z0⟩ := hfs.spot (k := p * 3) (by omega)
                obtain ⟨v1, e1, z1⟩ := hfs.spot (k := p * 3 + 1) (by omega)
                obtain ⟨v2, e2, z2⟩ := hfs.spot (k := p * 3 + 1 + 1) (by omega)
                have F1 := hfs.step hpl
                have b3 : (0 : Int) ≤ (p : Int) := by omega
                have b4 : (p : Int) < (m : Int) := by omega
                have b5 : (p : Int) < (la q : Int) := by omega
                have b6 : (p : Int) < (lb q : Int) := by omega
                have hsf := fun (w : World) (a : Addr) (b : Nat) (m : Mode) => run_store Yba.prog w a (.float .f64 b) m rfl
                have q0 : ∀ w, (binOp .quo 22 (.float .f64 (floatOfInt .f64 ((X q p : Int) % 16))) (.float .f64 4625196817309499392)).run Yba.prog w = .ok (.float .f64 (fr (X q p % 16))) w := fun w => run_float_arith (P := Yba.prog) w .quo 22 .f64 _ _ _ (div_fr ⟨X q p % 16, Nat.mod_lt _ (by omega)⟩)
                have q1 : ∀ w, (binOp .quo 22 (.float .f64 (floatOfInt .f64 ((Y q p : Int) % 16))) (.float .f64 4625196817309499392)).run Yba.prog w = .ok (.float .f64 (fr (Y q p % 16))) w := fun w => run_float_arith (P := Yba.prog) w .quo 22 .f64 _ _ _ (div_fr ⟨Y q p % 16, Nat.mod_lt _ (by omega)⟩)
                have i1 := isum_le (fun j => X q j % 16) (fun j => Y q j % 16) p (fun j _ => Nat.mod_lt _ (by omega)) (fun j _ => Nat.mod_lt _ (by omega))
                obtain ⟨i2, i3⟩ := prod_le (X q p) (Y q p)
                have n1 : ¬ wo.heap.size = I := by omega
                have n2 : ¬ wo.heap.size = D := by omega
                have n3 : ¬ wo.heap.size = D' := by omega
                clear hcc hcc' hfs hxq hyq ks f0 hDo hDo' g0 g1 c0 c1 c2 hBu hmkA hmkB
                go_wp2
                go_roundw
                case rel => exact ⟨p + 1, by omega, by go_num, isum_step (X q) (Y q) p, F1, ((hks.setCell (p := ⟨wo.heap.size, p * 3, none⟩) (Or.inl (by simp)) _).setCell (p := ⟨wo.heap.size, p * 3 + 1, none⟩) (Or.inl (by simp)) _).setCell (p := ⟨wo.heap.size, p * 3 + 1 + 1, none⟩) (Or.inl (by simp)) _⟩
                case measure => simp [intOf]; omega
              · obtain rfl : p = m := by omega
                have hst := hfs.streams
                have hBr := hBu.keptNew ks
                have R1 := hBr.step (T := wo.heap.size) (sc := p) hqk lB lT (by have e := unhide hm; show Streams wr wo.heap.size (min (la q) (lb q)) _ _ _; rw [← e]; exact hst)
                have hbr : Below w.heap.size w wr := hbw.trans (ks.below (by omega) (by simp; omega))
                simp only [← unhide hm] at R1
                obtain ⟨v0, e0, z0⟩ := hBr.spot (j := q * 2) (by omega)
                obtain ⟨v1, e1, z1⟩ := hBr.spot (j := q * 2 + 1) (by omega)
                obtain ⟨v2, e2, z2⟩ := hBr.spotS (j := q) (by omega)
                have c0' := ks.cellSome c0 (by simp; omega)
                have i1 := isum_le (fun j => X q j % 16) (fun j => Y q j % 16) p (fun j _ => Nat.mod_lt _ (by omega)) (fun j _ => Nat.mod_lt _ (by omega))
                clear hxq hyq hst hBu hBr c0 c1 c2 ks hks hfs hmkA hmkB f0
                go_wp2
                go_roundw
                case rel => exact ⟨q + 1, by omega, by go_num, R1, ((hbr.setCell (p := ⟨w.heap.size, q * 2, none⟩) (Nat.le_refl _) _).setCell (p := ⟨w.heap.size, q * 2 + 1, none⟩) (Nat.le_refl _) _).setCell (p := ⟨w.heap.size + 1, q, none⟩) (by simp) _⟩
                case measure => simp [intOf]; omega
        · obtain rfl : q = k := by omega
          obtain ⟨ta, tc, t0, t1, t2, t3⟩ := hBu.out
          clear hBu
          have hl2 : ∀ i, i < q → min (la i) (lb i) ≤ 1024 := fun i hi => by have := unhide Hle i hi; omega
          have hI : ∀ i, i < q → isum (fun j => X i j % 16) (fun j => Y i j % 16) (min (la i) (lb i)) ≤ 225 * 1024 := fun i hi => Nat.le_trans (isum_le _ _ _ (fun j _ => Nat.mod_lt _ (by omega)) (fun j _ => Nat.mod_lt _ (by omega))) (Nat.mul_le_mul_left _ (hl2 i hi))
          have hsum : ∀ i, i < q → sumF (fun j => fr (X i j % 16)) (fun j => fr (Y i j % 16)) (min (la i) (lb i)) = some (d256 (isum (fun j => X i j % 16) (fun j => Y i j % 16) (min (la i) (lb i)))) := fun i hi => sumF_d (fun j => X i j % 16) (fun j => Y i j % 16) _ (hl2 i hi) (fun j _ => Nat.mod_lt _ (by omega)) (fun j _ => Nat.mod_lt _ (by omega))
          have HI := hide hI
          have Hsum := hide hsum
          have Hl2 := hide hl2
          have Ht3 := hide t3
          clear hI hsum hl2 t3
          go_wp2_with fail
          refine (saturated_any w.heap.size q q nm ta (fun i => min (la i) (lb i)) tc (fun i j => fr (X i j % 16)) (fun i j => fr (Y i j % 16)) wr hn (unhide Hl2) t0 t1 t2).mono ?_
          rintro e w2 ⟨hres, hk2⟩
          have hb2 : Below w.heap.size w w2 := hbw.trans (hk2.below hbw.size (by simp))
          have Ht4 : Hid (∀ i, i < q → w2.cell? ⟨w.heap.size + 1, i, none⟩ = some (.int .i64 (isum (fun j => X i j % 16) (fun j => Y i j % 16) (min (la i) (lb i)) : Nat))) := hide (fun i hi => hk2.cellSome (unhide Ht3 i hi) (by simp))
          clear t0 t1 t2 hk2 hbw Ht3
          have hsat : ∀ i, i < q → sat (sumF (fun j => fr (X i j % 16)) (fun j => fr (Y i j % 16)) (min (la i) (lb i))) = decide (256 ≤ isum (fun j => X i j % 16) (fun j => Y i j % 16) (min (la i) (lb i))) := fun i hi => by
            rw [unhide Hsum i hi]
            exact sat_d _ (by have := unhide HI i hi; omega)
          have Hsat := hide hsat
          clear hsat
          rcases hres with ⟨i0, E, u, hi0, hno, hyes, rfl, hE, hu⟩ | ⟨hall, rfl⟩
          · have hlo : ∀ j, j < i0 → isum (fun t => X j t % 16) (fun t => Y j t % 16) (min (la j) (lb j)) < 256 := fun j hj => by
              have h := hno j hj
              simp only [unhide Hsat j (by omega), decide_eq_false_iff_not] at h
              omega
            have hhi : 256 ≤ isum (fun t => X i0 t % 16) (fun t => Y i0 t % 16) (min (la i0) (lb i0)) := by
              simp only [unhide Hsat i0 hi0, decide_eq_true_eq] at hyes
              exact hyes
            have hu2 : u = d256 (isum (fun t => X i0 t % 16) (fun t => Y i0 t % 16) (min (la i0) (lb i0))) := by
              simp only [unhide Hsum i0 hi0] at hu
              exact hu
            have Hlo := hide hlo
            have Hhi := hide hhi
            have Hu := hide hu2
            clear hno hyes hu hlo hhi hu2
            go_wp2
            go_loop [134] (fun i => ∃ p : Nat, p ≤ i0 ∧ i = .int .i64 p) (fun i => q - (intOf i).toNat)
            case atStart => exact ⟨0, Nat.zero_le _, rfl⟩
            case round =>
              obtain ⟨p, hp, rfl⟩ := hrel
              by_cases hpq : p < i0
              · have hpq' : p < q := by omega
                have s0 := unhide Ht4 p hpq'
                have s1 := unhide Hlo p hpq
                have b1 : (0 : Int) ≤ (p : Int) := by omega
                have b2 : (p : Int) < (q : Int) := by omega
                obtain ⟨S, hS⟩ : ∃ S, S = isum (fun t => X p t % 16) (fun t => Y p t % 16) (min (la p) (lb p)) := ⟨_, rfl⟩
                rw [← hS] at s0 s1
                have b3 : ¬ (256 : Int) ≤ (S : Int) := by omega
                clear hS h0 h1 h2 hx hy hmk hmi hE
                go_wp2
                go_round
                case rel => exact ⟨p + 1, by omega, by go_num⟩
                case measure => simp [intOf]; omega
              · obtain rfl : p = i0 := by omega
                have s0 := unhide Ht4 p hi0
                have s1 := unhide Hhi
                have s2 := unhide Hu
                have s3 := unhide HI p hi0
                have b1 : (0 : Int) ≤ (p : Int) := by omega
                have b2 : (p : Int) < (q : Int) := by omega
                obtain ⟨S, hS⟩ : ∃ S, S = isum (fun t => X p t % 16) (fun t => Y p t % 16) (min (la p) (lb p)) := ⟨_, rfl⟩
                rw [← hS] at s0 s1 s2 s3
                subst s2
                have b3 : (256 : Int) ≤ (S : Int) := by omega
                have c0 := (hb2.cell (World.block_lt_of_cell? _ _ (h0 p hi0))).trans (h0 p hi0)
                have ce0 : w2.cell? ⟨E, 0, none⟩ = some (.string (nm p)) := by rw [cell_of_heap hE]; rfl
                have ce1 : w2.cell? ⟨E, 1, none⟩ = some (.float .f64 (d256 S)) := by rw [cell_of_heap hE]; rfl
                have q1 := ta78
                have q2 := run_neq_ptr78
                have q3 : ∀ w, (binOp .quo 22 (.float .f64 (floatOfInt .f64 (S : Int))) (.float .f64 4643211215818981376)).run Yba.prog w = .ok (.float .f64 (d256 S)) w := fun w => run_float_arith (P := Yba.prog) w .quo 22 .f64 _ _ _ (div_d S (by omega) (by omega))
                have q4 : FloatKind.f64.format.order (d256 S) (d256 S) = some .eq := by
                  have h := order_d S S (by omega) (by omega)
                  rw [Nat.compare_eq_eq.2 rfl] at h
                  exact h
                clear hS h0 h1 h2 hx hy hmk hmi hE s1 s3
                go_wp2
                go_quiet (fail)
                go_wp2
                go_ret
                exact ⟨rfl, below_drewN hb2 _⟩
          · have hlo : ∀ j, j < q → isum (fun t => X j t % 16) (fun t => Y j t % 16) (min (la j) (lb j)) < 256 := fun j hj => by
              have h := hall j hj
              simp only [unhide Hsat j hj, decide_eq_false_iff_not] at h
              omega
            have Hlo := hide hlo
            clear hall hlo
            go_wp2
            go_loop [134] (fun i => ∃ p : Nat, p ≤ q ∧ i = .int .i64 p) (fun i => q - (intOf i).toNat)
            case atStart => exact ⟨0, Nat.zero_le _, rfl⟩
            case round =>
              obtain ⟨p, hp, rfl⟩ := hrel
              by_cases hpq : p < q
              · have s0 := unhide Ht4 p hpq
                have s1 := unhide Hlo p hpq
                have b1 : (0 : Int) ≤ (p : Int) := by omega
                have b2 : (p : Int) < (q : Int) := by omega
                obtain ⟨S, hS⟩ : ∃ S, S = isum (fun t => X p t % 16) (fun t => Y p t % 16) (min (la p) (lb p)) := ⟨_, rfl⟩
                rw [← hS] at s0 s1
                have b3 : ¬ (256 : Int) ≤ (S : Int) := by omega
                clear hS h0 h1 h2 hx hy hmk hmi
                go_wp2
                go_round
                case rel => exact ⟨p + 1, by omega, by go_num⟩
                case measure => simp [intOf]; omega
              · obtain rfl : p = q := by omega
                clear h0 h1 h2 hx hy hmk hmi
                go_wp2
                go_ret
                exact ⟨rfl, hb2⟩
end Go.Proofs.Ybulkcoda
