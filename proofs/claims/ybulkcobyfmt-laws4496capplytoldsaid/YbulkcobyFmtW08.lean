import Derived.Test.YbulkcobyFmtW07
import Derived.Deep.RegionLawGrows
import Derived.Deep.DrawnRows
import Derived.Deep.AppendLies
import Derived.Deep.DeepMust
namespace Go.Proofs.YbulkcobyFmt
open Go.RowKit Go.Extern.Stop Go.Stop Go.Extern
attribute [local go_sem ↓] Go.wp_at_zero Go.wp_at_succ

abbrev mark : Value := .iface 52 (.agg #[.int .i64 7])
/-- The build closure of the law. -/
def bfn (C GB GA GL : Nat) : Value := .func (Fn.func 9) #[] #[.pointer (some ⟨C, 0, none⟩), .pointer (some ⟨GB, 0, none⟩), .pointer (some ⟨GA, 0, none⟩), .pointer (some ⟨GL, 0, none⟩)]

theorem Row.spare {w : World} {S : Nat} {xs : List Value} (h : Row w S xs) {k : Nat} (hk : k < xs.length) : (w.cell? ⟨S, k, none⟩).isSome = true ∧ w.frozen? ⟨S, k, none⟩ = false := by
  obtain ⟨cur, h1, h2, _⟩ := h
  constructor
  · have : k < cur.size := by omega
    simp [World.cell?, h1, this]
  · simp [World.frozen?, h1]
theorem Row.store {w : World} {S : Nat} {xs : List Value} (h : Row w S xs) {k : Nat} (hk : k < xs.length) (v : Value) : Row (w.setCell ⟨S, k, none⟩ v) S (xs.take k ++ [v]) := by
  obtain ⟨cur, h1, h2, h3⟩ := h
  refine ⟨cur.setIfInBounds k v, ?_, ?_, ?_⟩
  · have hlt := lt_of_block h1
    have h' : w.heap[S] = .cells cur 41 (0, 0) := by simpa [Array.getElem?_eq_getElem hlt] using h1
    show (w.heap.modify S _)[S]? = _
    rw [Array.getElem?_eq_getElem (by simpa using hlt), Array.getElem_modify_self, h']
    rfl
  · simp; omega
  · apply List.ext_getElem?
    intro i
    have e := congrArg (fun l : List Value => l[i]?) h3
    simp only [List.getElem?_take] at e
    simp only [List.length_append, List.length_take, List.length_singleton, List.getElem?_take, Array.toList_setIfInBounds, List.getElem?_set, List.getElem?_append]
    have hm : min k xs.length = k := by omega
    rw [hm]
    by_cases h0 : i < k
    · have h0' : i < k + 1 := by omega
      have h0'' : ¬ k = i := by omega
      have h0x : i < xs.length := by omega
      rw [if_pos h0x] at e
      simp [h0, h0', h0'', e]
    · by_cases h9 : i = k
      · subst h9
        have : i < cur.size := by omega
        simp [this]
      · have : ¬ i < k + 1 := by omega
        have hh : ∃ d, i - k = d + 1 := ⟨i - k - 1, by omega⟩
        obtain ⟨d, hd⟩ := hh
        simp [h0, this, hd]

/-- The new element's own block. -/
theorem news_one (w : World) (v : Value) (j : Nat) (u : Value) (h : [v][j]? = some u) : (w.alloc (.cells #[v] 41)).cell? ((⟨w.heap.size, 0, none⟩ : Addr).add j) = some u := by
  exact World.news_of_block (MapKept.heap_alloc w (.cells #[v] 41)).1 j u (by simpa using h)
theorem spare_one {w : World} {S : Nat} {xs : List Value} (h : Row w S xs) {k : Nat} (hk : k < xs.length) (o : Obj) (v : Value) : ∀ j, j < [v].length → ((w.alloc o).cell? ⟨S, 0 + k * 1 + j, none⟩).isSome = true ∧ (w.alloc o).frozen? ⟨S, 0 + k * 1 + j, none⟩ = false := by
  intro j hj
  obtain rfl : j = 0 := by simpa using hj
  have := (h.kept ((Kept.refl [] w).alloc o) (by simp)).spare hk
  simpa using this
/-- What the append with room leaves. -/
theorem after_append {w w3 : World} {P S : Nat} {xs : List Value} {v : Value} {k : Nat} {o : Obj} (hne : ¬ S = P) (hc : w.cell? ⟨P, 8, none⟩ = some v) (hf : w.frozen? ⟨P, 8, none⟩ = false) (hr : Row w S xs) (hk : k < xs.length) (u : Value)
    (h3 : w3 = (w.alloc o).setCells S (0 + k * 1) [u]) : w3.cell? ⟨P, 8, none⟩ = some v ∧ w3.frozen? ⟨P, 8, none⟩ = false ∧ Kept [S] w w3 ∧ Row w3 S (xs.take k ++ [u]) := by
  have e : w3 = (w.alloc o).setCell ⟨S, k, none⟩ u := by rw [h3]; simp [World.setCells]
  have hk3 : Kept [S] w w3 := by rw [e]; exact ((Kept.refl [S] w).alloc o).setCell (p := ⟨S, k, none⟩) (Or.inl (by simp)) u
  refine ⟨hk3.cellSome hc (by simp; omega), (hk3.frozen (World.block_lt_of_cell? _ _ hc) (by simp; omega)).trans hf, hk3, ?_⟩
  rw [e]
  exact (hr.kept ((Kept.refl [] w).alloc o) (by simp)).store hk u

/-- What gridFunction leaves when it has called build and pushed the node. -/
def GridOk (w w' : World) (P S n r C GB GA GL last : Nat) (args xs : List Value) : Prop :=
  ∃ g2 cap2, Kept [P, S, C, GB, GA, GL] w w' ∧ One w' C (.int .i64 1) ∧ One w' GB (.pointer (some ⟨P, 0, none⟩)) ∧ One w' GA (.slice (some ⟨g2, 0, none⟩) n cap2) ∧ One w' GL (.float .f64 last) ∧ Row w' g2 args ∧ w.heap.size ≤ g2 ∧
    ∃ S' c', w'.cell? ⟨P, 8, none⟩ = some (.slice (some ⟨S', 0, none⟩) (r + 1) c') ∧ r + 1 ≤ c' ∧ Row w' S' (xs.take r ++ [mark])

theorem grid_end {w w1 w2 w3 : World} {P S S' n r c C GB GA GL last g2 cap2 : Nat} {args xs : List Value} {v : Value} {ex : List Nat} (K1 : Kept [P] w w1) (hk2 : Kept [C, GB, GA, GL] w1 w2) (hk3 : Kept ex w2 w3) (hex : ∀ k, k ∈ ex → k = S)
    (hC2 : One w2 C (.int .i64 1)) (hB2 : One w2 GB (.pointer (some ⟨P, 0, none⟩))) (hA2 : One w2 GA (.slice (some ⟨g2, 0, none⟩) n cap2)) (hL2 : One w2 GL (.float .f64 last)) (hr2 : Row w2 g2 args) (hg2 : w1.heap.size ≤ g2)
    (hr3 : Row w3 S' (xs.take r ++ [mark])) (hS' : S' = S ∨ w2.heap.size ≤ S') (lS : S < w1.heap.size) (lP : P < w1.heap.size) (hrc : r + 1 ≤ c) (hc3 : w3.cell? ⟨P, 8, none⟩ = some v) (hne : [P, S, C, GB, GA, GL].Nodup) :
    GridOk w (w3.setCell ⟨P, 8, none⟩ (.slice (some ⟨S', 0, none⟩) (r + 1) c)) P S n r C GB GA GL last args xs := by
  simp at hne
  obtain ⟨⟨p1, p2, p3, p4, p5⟩, ⟨s1, s2, s3, s4⟩, ⟨c1, c2, c3⟩, ⟨b1, b2⟩, a1⟩ := hne
  have z1 := K1.size
  have z2 := hk2.size
  have k4 : Kept (P :: ex) w2 (w3.setCell ⟨P, 8, none⟩ (.slice (some ⟨S', 0, none⟩) (r + 1) c)) := (hk3.weaken (by simp; intro a ha; exact Or.inr ha)).setCell (p := ⟨P, 8, none⟩) (Or.inl (by simp)) _
  have nn : ∀ b, ¬ b = P → ¬ b = S → ¬ b ∈ P :: ex := by
    intro b h1 h2 h3
    rcases List.mem_cons.1 h3 with h | h
    · exact h1 h
    · exact h2 (hex b h)
  have lt2 := hr2.lt
  refine ⟨g2, cap2, ?_, hC2.kept k4 (nn _ (by omega) (by omega)), hB2.kept k4 (nn _ (by omega) (by omega)), hA2.kept k4 (nn _ (by omega) (by omega)), hL2.kept k4 (nn _ (by omega) (by omega)), hr2.kept k4 (nn _ (by omega) (by omega)), by omega, S', c, ?_, hrc, ?_⟩
  · refine ((K1.weaken (by simp)).trans (hk2.weaken (by simp))).after k4 ?_
    intro i hi
    rcases List.mem_cons.1 hi with h | h
    · exact Or.inl (by simp [h])
    · exact Or.inl (by simp [hex i h])
  · exact World.cell?_setCell_same _ _ _ hc3
  · have : ¬ P = S' := by rcases hS' with h | h <;> omega
    obtain ⟨cur, e1, e2⟩ := hr3
    exact ⟨cur, (Below.heap_setCell w3 ⟨P, 8, none⟩ _ S' (fun e => this e.symm)).trans e1, e2⟩

set_option maxRecDepth 100000 in
set_option maxHeartbeats 1000000 in
theorem grid_room (P S m n c C GB GA GL : Nat) (pos : Int) (xs : List Value) (vB vA vL : Value) (w : World) (hc : w.cell? ⟨P, 8, none⟩ = some (.slice (some ⟨S, 0, none⟩) m c)) (hf : w.frozen? ⟨P, 8, none⟩ = false) (hn0 : 1 ≤ n) (hnm : n ≤ m) (hmc : m ≤ c) (hm : m ≤ 1024)
    (hl : xs.length = m) (hrow : Row w S xs) (h1 : ∀ u ∈ xs, u.oneCell' = true)
    (hC : One w C (.int .i64 0)) (hB : One w GB vB) (hA : One w GA vA) (hL : One w GL vL) (hne : [P, S, C, GB, GA, GL].Nodup) :
    Calls Ybaf.prog 12 #[.pointer (some ⟨P, 0, none⟩), .string ⟨#[79, 80]⟩, .agg #[.int .i64 (n : Int), .pointer none, .func (Fn.func 9) #[] #[.pointer (some ⟨C, 0, none⟩), .pointer (some ⟨GB, 0, none⟩), .pointer (some ⟨GA, 0, none⟩), .pointer (some ⟨GL, 0, none⟩)]], .int .i64 pos] w fun e w' =>
      e = .returned .nilIface ∧ GridOk w w' P S n (m - n) C GB GA GL 0 (xs.drop (m - n)) xs := by
  have hP : P < w.heap.size := World.block_lt_of_cell? _ _ hc
  go_enter Ybaf.func12, Ybaf.ntmps12
  go_wp2_with fail
  have kb : Kept [] w (w.alloc (.cells #[.int .i64 (n : Int), .pointer none, .func (Fn.func 9) #[] #[.pointer (some ⟨C, 0, none⟩), .pointer (some ⟨GB, 0, none⟩), .pointer (some ⟨GA, 0, none⟩), .pointer (some ⟨GL, 0, none⟩)]] 56)) := (Kept.refl [] w).alloc _
  have hbf : (w.alloc (.cells #[.int .i64 (n : Int), .pointer none, .func (Fn.func 9) #[] #[.pointer (some ⟨C, 0, none⟩), .pointer (some ⟨GB, 0, none⟩), .pointer (some ⟨GA, 0, none⟩), .pointer (some ⟨GL, 0, none⟩)]] 56)).cell? ⟨w.heap.size, 2, none⟩ = some (.func (Fn.func 9) #[] #[.pointer (some ⟨C, 0, none⟩), .pointer (some ⟨GB, 0, none⟩), .pointer (some ⟨GA, 0, none⟩), .pointer (some ⟨GL, 0, none⟩)]) := by simp [go_sem]
  refine (pop_ok P S m n c pos xs _ (kb.cellSome hc (by simp)) ((kb.frozen hP (by simp)).trans hf) hnm hmc hm hl (fun j u hj => (hrow.kept kb (by simp)).cell j u hj) h1).mono ?_
  rintro e w1 ⟨g, cap, rfl, hg, hrg, hk1, hc1, hf1⟩
  have hne' := hne
  simp at hne'
  obtain ⟨⟨p1, p2, p3, p4, p5⟩, ⟨s1, s2, s3, s4⟩, ⟨c1, c2, c3⟩, ⟨b1, b2⟩, a1⟩ := hne'
  have hz := kb.size
  have hP1 : P < w1.heap.size := World.block_lt_of_cell? _ _ hc1
  have hC1 := (hC.kept kb (by simp)).kept hk1 (by simp; omega)
  have hB1 := (hB.kept kb (by simp)).kept hk1 (by simp; omega)
  have hA1 := (hA.kept kb (by simp)).kept hk1 (by simp; omega)
  have hL1 := (hL.kept kb (by simp)).kept hk1 (by simp; omega)
  have hS1 := (hrow.kept kb (by simp)).kept hk1 (by simp; omega)
  have hbf1 := hk1.cellSome hbf (by simp; omega)
  have K1 : Kept [P] w w1 := (kb.weaken (by simp)).trans hk1
  have lC : C < w.heap.size := World.block_lt_of_cell? _ _ hC.1
  have lB : GB < w.heap.size := World.block_lt_of_cell? _ _ hB.1
  have lA : GA < w.heap.size := World.block_lt_of_cell? _ _ hA.1
  have lL : GL < w.heap.size := World.block_lt_of_cell? _ _ hL.1
  have lS := hrow.lt
  simp only [World.size_alloc] at hg
  have hgn : ¬ g ∈ [C, GB, GA, GL] := by simp; omega
  have hnd : [C, GB, GA, GL].Nodup := by simp; exact ⟨⟨c1, c2, c3⟩, ⟨b1, b2⟩, a1⟩
  have hld : (xs.drop (m - n)).length = n := by simp [hl]; omega
  have h1d : ∀ u ∈ xs.drop (m - n), u.oneCell' = true := fun u hu => h1 u (List.mem_of_mem_drop hu)
  have hkx : m - n < xs.length := by omega
  obtain ⟨i0, hi, hz0, hz1, hz2⟩ := info_parts info41
  clear hc hf hC hB hA hL hrow hbf kb hk1
  go_wp2_with fail
  go_region_law (first
    | (clear tokA; go_must (refine step_append_room (by rfl) (.tmp 50) (.tmp 59) 39 (by rfl) 41 i0 1 Ybaf.underlying39 hi hz1 S 0 (m - n) c (by rfl) ⟨w2.heap.size, 0, none⟩ 1 1 [mark] (by rfl) (by rfl) (news_one w2 mark) (by simp [Value.oneCell']) (by omega) (spare_one hS2 hkx _ mark) ?_; generalize hW : World.setCells (w2.alloc (.cells #[mark] 41)) S (0 + (m - n) * 1) [mark] = w3; obtain ⟨hc3, hf3, hk3, hr3⟩ := after_append (o := .cells #[mark] 41) (fun e => p1 e.symm) hc2 hf2 hS2 hkx mark hW.symm; clear hW))
    | (go_simp; go_at_call 9; refine (build_any P g n cap C GB GA GL 0 (xs.drop (m - n)) vB vA vL _ (by omega) hld h1d (by exact hrg) (by exact hC1) (by exact hB1) (by exact hA1) (by exact hL1) hnd hgn).mono ?_; rintro e w2 ⟨g2, cap2, rfl, hk2, hC2, hB2, hA2, hL2, hr2, hg2⟩; have hc2 := hk2.cellSome (p := ⟨P, 8, none⟩) hc1 (by simp; omega); have hS2 := Row.kept (w := w1.drew) (g := S) hS1 hk2 (by simp; omega); have hf2 := (hk2.frozen (p := ⟨P, 8, none⟩) (World.block_lt_of_cell? _ _ hc1) (by simp; omega)).trans hf1; have hP2 : P < w2.heap.size := World.block_lt_of_cell? _ _ hc2; have tokA : True := trivial))
  all_goals
    go_wp2
    go_ret
    exact ⟨rfl, grid_end (w1 := w1.drew) K1.drew hk2 hk3 (by simp) hC2 hB2 hA2 hL2 hr2 hg2 hr3 (Or.inl rfl) hS1.lt hP1 (by omega) hc3 hne⟩
end Go.Proofs.YbulkcobyFmt
