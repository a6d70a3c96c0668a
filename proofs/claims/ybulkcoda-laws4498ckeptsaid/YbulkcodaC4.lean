import Derived.Test.YbulkcodaC3
namespace Go.Proofs.Ybulkcoda
open Go.RowKit Go.MuLone

theorem Cl.kept' {w w' : World} {B n : Nat} {X : Nat → Nat} {ga : Option Addr} {ex : List Nat} (h : Cl w B n X ga) (k : Kept ex w w') (hx : ∀ g, ga = some ⟨g, 0, none⟩ → ¬ g ∈ ex) : Cl w' B n X ga := by
  rcases h with h | ⟨g, h1, h2, h3⟩
  · exact Or.inl h
  · exact Or.inr ⟨g, h1, h2, h3.kept k (hx g h1)⟩
theorem Clones.up {w : World} {B n k : Nat} {la : Nat → Nat} {X : Nat → Nat → Nat} {cur : Array Value} (h : Clones w B n k la X cur) : ∀ i, i < k → ∀ g l c, cur[i]? = some (.slice (some ⟨g, 0, none⟩) l c) → g < w.heap.size := by
  intro i hi g l c e
  obtain ⟨ga, c', a, b⟩ := h.2.2.2 i hi
  rw [a] at e
  simp at e
  rcases b with b | ⟨g', b1, b2, b3⟩
  · rw [b.1] at e; cases e.1
  · rw [b1] at e
    have : g' = g := by simpa using e.1
    subst this
    exact b3.lt

set_option maxRecDepth 100000 in
set_option maxHeartbeats 2000000 in
theorem ckept (d : Int) (ia : Option Addr) (n c : Nat) (la : Nat → Nat) (X : Nat → Nat → Nat) (w : World) (hn : n ≤ 1024)
    (hI : 0 < n → ∃ I off, ia = some ⟨I, off, none⟩ ∧ ∀ i, i < n → ∃ sa ca, w.cell? ⟨I, off + i, none⟩ = some (.slice sa (la i) ca) ∧ InB w sa (la i) (X i) ∧ (sa = none → la i = 0) ∧ la i ≤ 140737488351232) :
    Calls Yba.prog 6 #[.int .i64 d, .slice ia n c] w fun e w' => e = .returned (.bool true) ∧ Below w.heap.size w w' := by
  have hd : decide ((1024 : Int) < (n : Int)) = false := by simp; omega
  have hmk := fun w => make88 n hn w
  go_enter Yba.func6, Yba.ntmps6
  go_wp2
  have hB0 : Clones (w.alloc (.cells (mkQ n) 84)) w.heap.size n 0 la X (mkQ n) := Clones.zero (MapKept.heap_alloc w _).1
  go_loopw [20] (fun i wr => ∃ k : Nat, k ≤ n ∧ i = .int .i64 k ∧ (∃ cur, Clones wr w.heap.size n k la X cur) ∧ Below w.heap.size w wr) (fun i _ => n - (intOf i).toNat)
  case atStart => exact ⟨0, Nat.zero_le _, rfl, ⟨_, hB0⟩, (Below.refl _ _).alloc (Nat.le_refl _) _⟩
  case round =>
    obtain ⟨k, hk, rfl, ⟨cur, hcl⟩, hbw⟩ := hrel
    clear hB0 hmk
    by_cases hlt : k < n
    · obtain ⟨I, off, rfl, hc⟩ := hI (by omega)
      obtain ⟨sa, ca, e1, e2, e3, e4⟩ := hc k hlt
      have c1 := (hbw.cell (World.block_lt_of_cell? _ _ e1)).trans e1
      have lI : I < w.heap.size := World.block_lt_of_cell? _ _ e1
      have hin := e2.below hbw
      have lB := hcl.lt
      have b1 : (0 : Int) ≤ (k : Int) := by omega
      have b2 : (k : Int) < (n : Int) := by omega
      obtain ⟨wo, rfl⟩ : ∃ wo : World, wo = wr := ⟨_, rfl⟩
      clear hI hc e1 e2
      cases sa with
      | none =>
        have hz := e3 rfl
        obtain ⟨v0, s0, f0⟩ := hcl.spot hlt
        have R1 := hcl.step (ga := none) (c := 0) hlt (Or.inl ⟨rfl, hz⟩)
        have Hz := hide hz
        clear hin e3 hz
        go_wp2_with (go_at_call 14; refine (bclone_nil _ _ _).mono ?_; rintro e w1 ⟨rfl, rfl⟩)
        go_roundw
        case rel => exact ⟨k + 1, by omega, by go_num, ⟨_, by rw [unhide Hz] at R1; exact R1⟩, hbw.setCell (p := ⟨w.heap.size, k, none⟩) (Nat.le_refl _) _⟩
        case measure => simp [intOf]; omega
      | some a =>
        have hxs : ∀ j u, (vals (X k) (la k))[j]? = some u → wo.cell? (a.add j) = some u := by
          intro j u hj
          obtain ⟨hj1, rfl⟩ := vals_lt hj
          rcases hin with h | ⟨D, o, hDo, h⟩
          · omega
          · obtain rfl : a = ⟨D, o, none⟩ := by simpa using hDo
            rw [addr_add]
            exact (h j hj1).1
        clear hin e3
        go_wp2_with fail
        refine (bclone_some a (la k) ca (vals (X k) (la k)) _ e4 (vals_length _ _) hxs (vals_one _ _)).mono ?_
        rintro e w1 ⟨g, cap, rfl, hg, hrow, hk1⟩
        have hcl1 := hcl.kept hk1 (by simp)
        obtain ⟨v0, s0, f0⟩ := hcl1.spot hlt
        have R1 := hcl1.step (ga := some ⟨g, 0, none⟩) (c := cap) hlt (Or.inr ⟨g, rfl, by omega, hrow⟩)
        have hb1 : Below w.heap.size w w1 := hbw.trans (hk1.below hbw.size (by simp))
        clear hcl hcl1 hrow hxs
        go_wp2
        go_roundw
        case rel => exact ⟨k + 1, by omega, by go_num, ⟨_, R1⟩, hb1.setCell (p := ⟨w.heap.size, k, none⟩) (Nat.le_refl _) _⟩
        case measure => simp [intOf]; omega
    · obtain rfl : k = n := by omega
      obtain ⟨O, hOe⟩ : ∃ O, O = wr.heap.size := ⟨_, rfl⟩
      obtain ⟨wx, hwx⟩ : ∃ wx, wx = wr.alloc (.cells (oC (.slice (some ⟨w.heap.size, 0, none⟩) k k) d (bits .xor .i64 d 1)) 100) := ⟨_, rfl⟩
      have hcl1 : Clones wx w.heap.size k k la X cur := by rw [hwx]; exact hcl.kept ((Kept.refl [] wr).alloc _) (by simp)
      have hbx : Below w.heap.size w wx := by rw [hwx]; exact hbw.alloc hbw.size _
      have hO : wx.heap[O]? = some (.cells (oC (.slice (some ⟨w.heap.size, 0, none⟩) k k) d (bits .xor .i64 d 1)) 100) := by rw [hwx, hOe]; exact (MapKept.heap_alloc wr _).1
      have hBO : w.heap.size < O := by rw [hOe]; exact hcl.lt
      have hup : Hid (∀ i, i < k → ∀ g l c, cur[i]? = some (.slice (some ⟨g, 0, none⟩) l c) → g < O) := hide (by rw [hOe]; exact hcl.up)
      have Hwx := hide hwx
      have HOe := hide hOe
      clear hwx hOe hcl hbw
      go_wp2_with fail
      rw [← unhide HOe]
      have hone : ∀ u ∈ cur.toList, u.oneCell' = true := by
        intro u hu
        obtain ⟨j, hj, rfl⟩ := List.getElem_of_mem hu
        obtain ⟨ga, l, cc, e⟩ := hcl1.2.2.1 j (by have := hcl1.2.1; simp at hj; omega)
        have : cur.toList[j] = .slice ga l cc := by
          have hj' : j < cur.size := by simpa using hj
          rw [Array.getElem?_eq_getElem hj'] at e
          simpa using e
        rw [this]
        rfl
      have hcells : ∀ j u, cur.toList[j]? = some u → wx.cell? ((⟨w.heap.size, 0, none⟩ : Addr).add j) = some u := by
        intro j u hj
        rw [addr_add, Nat.zero_add, cell_of_heap hcl1.1]
        simpa using hj
      have HH : wx = wr.alloc (.cells #[.int .i32 0, .int .u32 0, .slice (some ⟨w.heap.size, 0, none⟩) k k, .int .i64 d, .int .i64 (bits .xor .i64 d 1), .bool false, .bool false, .chan none] 100) := unhide Hwx
      rw [← HH]
      clear HH
      refine (kept_some O ⟨w.heap.size, 0, none⟩ k k d _ cur.toList wx hO (by omega) (by simpa using hcl1.2.1) hcells hone (by simp; omega)).mono ?_
      rintro e w2 ⟨g, cap, rfl, hg, hrow, hk2⟩
      have hcl2 := hcl1.kept hk2 (by simp)
      have hO2 := (hk2.block O (lt_of_block hO) (by simp)).trans hO
      have hb2 : Below w.heap.size w w2 := hbx.trans (hk2.below hbx.size (by simp))
      have hgO : O < g := by have := lt_of_block hO; omega
      clear hcl1 hO hbx hk2 hone hcells Hwx
      go_wp2
      go_loopw [53] (fun i wr => ∃ p : Nat, p ≤ k ∧ i = .int .i64 p ∧ Kept [] w2 wr) (fun i _ => k - (intOf i).toNat)
      case atStart => exact ⟨0, Nat.zero_le _, rfl, Kept.refl _ _⟩
      case round =>
        obtain ⟨p, hp, rfl, hkp⟩ := hrel
        have hbo : Below w.heap.size w wr := hb2.trans (hkp.below hb2.size (by simp))
        obtain ⟨wo, rfl⟩ : ∃ wo : World, wo = wr := ⟨_, rfl⟩
        by_cases hpk : p < k
        · obtain ⟨I, off, rfl, hc⟩ := hI (by omega)
          obtain ⟨sa, ca, e1, e2, e3, e4⟩ := hc p hpk
          have c1 := (hbo.cell (World.block_lt_of_cell? _ _ e1)).trans e1
          obtain ⟨ga, cc, g1, g2⟩ := hcl2.2.2.2 p hpk
          have c2 := hkp.cellSome (hrow.cell p _ (by simpa using g1)) (by simp)
          have v1 : ∀ m, (convert 84 9 (.slice sa (la p) ca)).run Yba.prog (wo.drewN m) = .ok (.string (strOfNums (nums (X p) (la p)))) (wo.drewN m) := fun m => conv_in ((e2.below hbo).drewN m)
          have v2 : ∀ m, (convert 84 9 (.slice ga (la p) cc)).run Yba.prog (wo.drewN m) = .ok (.string (strOfNums (nums (X p) (la p)))) (wo.drewN m) := fun m => conv_cl ((g2.kept hkp (by simp)).drewN m)
          have b1 : (0 : Int) ≤ (p : Int) := by omega
          have b2 : (p : Int) < (k : Int) := by omega
          clear hI hc e1 e2 e3 hcl2 hO2 hrow g1 g2
          go_wp2
          go_quiet ((go_at_call 16; exact Calls.quiet_of_same (equal_same _ _ _ _ (v2 _) (v1 _))))
          go_wp2
          go_roundw
          case rel => exact ⟨p + 1, by omega, by go_num, hkp.drewN _⟩
          case measure => simp [intOf]; omega
        · obtain rfl : p = k := by omega
          have hcl3 := hcl2.kept hkp (by simp)
          have hO3 := (hkp.block O (lt_of_block hO2) (by simp)).trans hO2
          have hrow3 := hrow.kept hkp (by simp)
          have o2 : wo.cell? ⟨O, 2, none⟩ = some (.slice (some ⟨w.heap.size, 0, none⟩) p p) := by rw [cell_of_heap hO3]; rfl
          have o3 : wo.cell? ⟨O, 3, none⟩ = some (.int .i64 d) := by rw [cell_of_heap hO3]; rfl
          have o4 : wo.cell? ⟨O, 4, none⟩ = some (.int .i64 (bits .xor .i64 d 1)) := by rw [cell_of_heap hO3]; rfl
          have lO : O < wo.heap.size := lt_of_block hO3
          have hgO' : ¬ O = g := by omega
          have hgO2 : ¬ g = O := by omega
          clear hcl2 hO2 hrow
          rcases Nat.eq_zero_or_pos p with hp0 | hp0
          · have hp1 : ¬ (0 : Int) < (p : Int) := by omega
            have HI := hide hI
            have Hp0 := hide hp0
            have HO3 := hide hO3
            have Hrow3 := hide hrow3
            clear hI hp0 hO3 hrow3
            go_wp2
            refine wp_loop_rounds 1 ?_
            rw [rounds_succ]
            go_wp2
            go_ret
            exact ⟨rfl, hbo⟩
          · have hp1 : (0 : Int) < (p : Int) := by omega
            obtain ⟨I, off, rfl, hc⟩ := hI hp0
            obtain ⟨sa, ca, e1, e2, e3, e4⟩ := hc 0 hp0
            have c1 := (hbo.cell (World.block_lt_of_cell? _ _ e1)).trans e1
            rw [Nat.add_zero] at c1
            have hmk2 := fun w => make84 (la 0) e4 w
            have gg : ∃ v, wo.cell? ⟨g, 0, none⟩ = some v ∧ wo.frozen? ⟨g, 0, none⟩ = false := by
              obtain ⟨cur', r1, r2, _⟩ := hrow3
              have hsz : 0 < cur'.size := by have := hcl3.2.1; simp at r2; omega
              exact ⟨cur'[0], by rw [cell_of_heap r1]; simp [hsz], free_of_heap r1⟩
            obtain ⟨v0, s0, f0⟩ := gg
            have lg : g < wo.heap.size := World.block_lt_of_cell? _ _ s0
            have Hc := hide hc
            have HO3 := hide hO3
            have Hrow3 := hide hrow3
            clear hI hc e1 e2 e3 hO3 hrow3
            go_wp2
            obtain ⟨w3, hw3⟩ : ∃ w3, w3 = (wo.setCell ⟨g, 0, none⟩ (.slice (some ⟨wo.heap.size, 0, none⟩) (la 0 + 1) (la 0 + 1))).alloc (.cells (madeCells #[.int .u8 0] (la 0 + 1)) 5) := ⟨_, rfl⟩
            rw [← hw3]
            have k3 : Kept [g] wo w3 := by rw [hw3]; exact ((Kept.refl [g] wo).setCell (p := ⟨g, 0, none⟩) (Or.inl (by simp)) _).alloc _
            have hb3 : Below w.heap.size w w3 := hbo.trans (k3.below hbo.size (by simp; omega))
            have p2 := k3.cellSome o2 (by simpa using hgO')
            have hB3 : w3.heap[w.heap.size]? = some (.cells cur 84) := (k3.block w.heap.size hcl3.lt (by simp; omega)).trans hcl3.1
            have Hcl3 := hide hcl3
            clear hw3 o2 o3 o4 hcl3 s0 f0 c1 hmk2
            go_loopw [105] (fun i wr => ∃ j : Nat, j ≤ p ∧ i = .int .i64 j ∧ Kept [] w3 wr) (fun i _ => p - (intOf i).toNat)
            case atStart => exact ⟨0, Nat.zero_le _, rfl, Kept.refl _ _⟩
            case round =>
              obtain ⟨j, hj, rfl, hkj⟩ := hrel
              obtain ⟨w4, rfl⟩ : ∃ w4 : World, w4 = wr := ⟨_, rfl⟩
              have hb4 : Below w.heap.size w w4 := hb3.trans (hkj.below hb3.size (by simp))
              by_cases hjp : j < p
              · obtain ⟨sa, ca, e1, e2, e3, e4⟩ := unhide Hc j hjp
                have c1 := (hb4.cell (World.block_lt_of_cell? _ _ e1)).trans e1
                obtain ⟨ga, cc, g1, g2⟩ := (unhide Hcl3).2.2.2 j hjp
                have g3 : Cl w4 w.heap.size (la j) (X j) ga := (g2.kept' k3 (fun g' hg' => by
                  have := unhide hup j hjp g' (la j) cc (by rw [← hg']; exact g1)
                  simp; omega)).kept hkj (by simp)
                have c2 := hkj.cellSome (p := ⟨w.heap.size, j, none⟩) (v := .slice ga (la j) cc) (by rw [cell_of_heap hB3]; exact g1) (by simp)
                have p2' := hkj.cellSome p2 (by simp)
                have v1 : ∀ m, (convert 84 9 (.slice sa (la j) ca)).run Yba.prog (w4.drewN m) = .ok (.string (strOfNums (nums (X j) (la j)))) (w4.drewN m) := fun m => conv_in ((e2.below hb4).drewN m)
                have v2 : ∀ m, (convert 84 9 (.slice ga (la j) cc)).run Yba.prog (w4.drewN m) = .ok (.string (strOfNums (nums (X j) (la j)))) (w4.drewN m) := fun m => conv_cl (g3.drewN m)
                have b1 : (0 : Int) ≤ (j : Int) := by omega
                have b2 : (j : Int) < (p : Int) := by omega
                clear e1 e2 e3 hB3 g1 g2 g3 p2
                go_wp2
                go_quiet ((go_at_call 16; exact Calls.quiet_of_same (equal_same _ _ _ _ (v2 _) (v1 _))))
                go_wp2
                go_roundw
                case rel => exact ⟨j + 1, by omega, by go_num, hkj.drewN _⟩
                case measure => simp [intOf]; omega
              · obtain rfl : j = p := by omega
                go_wp2
                go_ret
                exact ⟨rfl, hb4⟩
end Go.Proofs.Ybulkcoda
