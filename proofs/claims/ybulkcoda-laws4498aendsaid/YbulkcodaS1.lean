import Derived.Test.YbulkcodaC3
import Derived.ArgAppend
namespace Go.Proofs.Ybulkcoda
open Go.RowKit Go.MuLone

/-- From w to w': new blocks, and writes to blocks at or above B that bear a tag of 'ts'. -/
def Chg (B : Nat) (ts : List TypeId) (w w' : World) : Prop := ∃ ex, Kept ex w w' ∧ ∀ k, k ∈ ex → B ≤ k ∧ (k < w.heap.size → ∃ cur t fr, w.heap[k]? = some (.cells cur t fr) ∧ t ∈ ts)
theorem Chg.refl (B : Nat) (ts : List TypeId) (w : World) : Chg B ts w w := ⟨[], Kept.refl _ _, by simp⟩
theorem Chg.of_kept {B : Nat} {ts : List TypeId} {w w' : World} (h : Kept [] w w') : Chg B ts w w' := ⟨[], h, by simp⟩
theorem Chg.weaken {B : Nat} {ts ts' : List TypeId} {w w' : World} (h : Chg B ts w w') (hs : ∀ t, t ∈ ts → t ∈ ts') : Chg B ts' w w' := by
  obtain ⟨ex, h1, h2⟩ := h
  refine ⟨ex, h1, fun k hk => ⟨(h2 k hk).1, fun hlt => ?_⟩⟩
  obtain ⟨cur, t, fr, a, b⟩ := (h2 k hk).2 hlt
  exact ⟨cur, t, fr, a, hs t b⟩
theorem Chg.trans {B : Nat} {ts : List TypeId} {w w1 w2 : World} (h : Chg B ts w w1) (k : Chg B ts w1 w2) : Chg B ts w w2 := by
  obtain ⟨ex, h1, h2⟩ := h
  obtain ⟨ex', k1, k2⟩ := k
  refine ⟨ex ++ ex', (h1.weaken (fun k hk => by simp [hk])).trans (k1.weaken (fun k hk => by simp [hk])), fun j hj => ?_⟩
  rcases List.mem_append.1 hj with hj | hj
  · exact h2 j hj
  · refine ⟨(k2 j hj).1, fun hlt => ?_⟩
    by_cases hm : j ∈ ex
    · exact (h2 j hm).2 hlt
    · obtain ⟨cur, t, fr, a, b⟩ := (k2 j hj).2 (Nat.lt_of_lt_of_le hlt h1.size)
      exact ⟨cur, t, fr, (h1.block j hlt hm).symm.trans a, b⟩
theorem Chg.alloc {B : Nat} {ts : List TypeId} {w w1 : World} (h : Chg B ts w w1) (o : Obj) : Chg B ts w (w1.alloc o) := h.trans (Chg.of_kept ((Kept.refl [] w1).alloc o))
theorem Chg.drew {B : Nat} {ts : List TypeId} {w w1 : World} (h : Chg B ts w w1) : Chg B ts w w1.drew := h.trans (Chg.of_kept ((Kept.refl [] w1).drew))
theorem Chg.drewN {B : Nat} {ts : List TypeId} {w w1 : World} (h : Chg B ts w w1) (m : Nat) : Chg B ts w (w1.drewN m) := h.trans (Chg.of_kept ((Kept.refl [] w1).drewN m))
theorem Chg.one {B : Nat} {ts : List TypeId} {w w' : World} {b : Nat} {cur : Array Value} {t : TypeId} {fr : Nat × Nat} (h : Kept [b] w w') (hB : B ≤ b) (hb : w.heap[b]? = some (.cells cur t fr)) (ht : t ∈ ts) : Chg B ts w w' :=
  ⟨[b], h, fun k hk => by
    obtain rfl : k = b := by simpa using hk
    exact ⟨hB, fun _ => ⟨cur, t, fr, hb, ht⟩⟩⟩
theorem Chg.setCell {B : Nat} {ts : List TypeId} {w w1 : World} (h : Chg B ts w w1) {p : Addr} {cur : Array Value} {t : TypeId} {fr : Nat × Nat} (hB : B ≤ p.block) (hb : w1.heap[p.block]? = some (.cells cur t fr)) (ht : t ∈ ts) (u : Value) : Chg B ts w (w1.setCell p u) :=
  h.trans (Chg.one ((Kept.refl [p.block] w1).setCell (p := p) (Or.inl (by simp)) u) hB hb ht)
theorem Chg.block {B : Nat} {ts : List TypeId} {w w' : World} (h : Chg B ts w w') {b : Nat} {cur : Array Value} {t : TypeId} {fr : Nat × Nat} (hb : w.heap[b]? = some (.cells cur t fr)) (ht : ¬ t ∈ ts) : w'.heap[b]? = some (.cells cur t fr) := by
  obtain ⟨ex, h1, h2⟩ := h
  have hlt : b < w.heap.size := by
    rcases Nat.lt_or_ge b w.heap.size with h | h
    · exact h
    · rw [Array.getElem?_eq_none h] at hb; cases hb
  refine (h1.block b hlt (fun hm => ?_)).trans hb
  obtain ⟨cur', t', fr', a, c⟩ := (h2 b hm).2 hlt
  rw [hb] at a
  have : t = t' := by injection a with a; injection a
  exact ht (this ▸ c)
theorem Chg.size {B : Nat} {ts : List TypeId} {w w' : World} (h : Chg B ts w w') : w.heap.size ≤ w'.heap.size := by
  obtain ⟨ex, h1, _⟩ := h
  exact h1.size
theorem Chg.below {B : Nat} {ts : List TypeId} {w w' : World} (h : Chg B ts w w') (hB : B ≤ w.heap.size) : Below B w w' := by
  obtain ⟨ex, h1, h2⟩ := h
  exact h1.below hB (fun k hk => (h2 k hk).1)

/-- The slice v, of one-cell elements of type t, holds xs; its block is at or above B. -/
def Sl (B : Nat) (t : TypeId) (w : World) (v : Value) (xs : List Value) : Prop := (v = .slice none 0 0 ∧ xs = []) ∨
  ∃ S off cap cur, v = .slice (some ⟨S, off, none⟩) xs.length cap ∧ B ≤ S ∧ w.heap[S]? = some (.cells cur t) ∧ off + cap ≤ cur.size ∧ xs.length ≤ cap ∧ ∀ j u, xs[j]? = some u → cur[off + j]? = some u
theorem Sl.chg {B : Nat} {t : TypeId} {w w' : World} {v : Value} {xs : List Value} {ts : List TypeId} {B' : Nat} (h : Sl B t w v xs) (k : Chg B' ts w w') (ht : ¬ t ∈ ts) : Sl B t w' v xs := by
  rcases h with h | ⟨S, off, cap, cur, h1, h2, h3, h4⟩
  · exact Or.inl h
  · exact Or.inr ⟨S, off, cap, cur, h1, h2, k.block h3 ht, h4⟩
theorem Sl.cell {B : Nat} {t : TypeId} {w : World} {S off n cap : Nat} {xs : List Value} (h : Sl B t w (.slice (some ⟨S, off, none⟩) n cap) xs) {j : Nat} {u : Value} (hj : xs[j]? = some u) : w.cell? ⟨S, off + j, none⟩ = some u := by
  rcases h with h | ⟨S', off', cap', cur, h1, h2, h3, h4, h5, h6⟩
  · cases h.1
  · have e : S = S' ∧ off = off' := by simpa using (Value.slice.inj h1).1
    obtain ⟨rfl, rfl⟩ := e
    rw [cell_of_heap h3]
    exact h6 j u hj
theorem setCells_one (w : World) (b o : Nat) (u : Value) : w.setCells b o [u] = w.setCell ⟨b, o, none⟩ u := by
  simp [World.setCells]

/-- 's = append(s, u)': in place or moved. -/
theorem wpList_append_sl {w : World} {ops : Array Oper} {rest : List Oper} {o : Oper} {a : Act} {Q : Exit → Act → World → Prop} (hg : o.guard = none) (s x : Operand) (t : TypeId)
    (hop : o.op = Op.call { callee := Callee.builtin Builtin.append, args := #[s, x], argTypes := #[t, t] })
    (e : TypeId) (i : TypeInfo) (z : Value) (bytes : Nat) (h1 : Yba.prog.underlying t = some (.slice e)) (h2 : Yba.prog.info? e = some i) (h3 : i.zero = some z) (h4 : i.size = 1) (h5 : i.bytes = bytes) (h6 : z.cells.size = 1) (hby : bytes ≤ 24)
    (B : Nat) (v : Value) (xs : List Value) (hs : a.eval s = v) (hsl : Sl B e w v xs) (hlen : xs.length ≤ 2000) (hB : B ≤ w.heap.size)
    (T c : Nat) (u : Value) (hx : a.eval x = .slice (some ⟨T, 0, none⟩) 1 c) (hc : w.cell? ⟨T, 0, none⟩ = some u) (h1c : u.oneCell' = true)
    (h : ∀ v' w', Sl B e w' v' (xs ++ [u]) → Chg B [e] w w' → wpList Yba.prog ops Q rest (a.put o.dst v') w') : wpList Yba.prog ops Q (o :: rest) a w := by
  have hnews : ∀ j u', [u][j]? = some u' → w.cell? ((⟨T, 0, none⟩ : Addr).add j) = some u' := by
    intro j u' hj
    cases j with
    | zero => simp at hj; subst hj; rw [addr_add]; exact hc
    | succ j => simp at hj
  have hbm : (xs.length + 1) * bytes ≤ 2001 * 24 := Nat.mul_le_mul (by omega) hby
  rcases hsl with ⟨rfl, rfl⟩ | ⟨S, off, cap, cur, rfl, g2, g3, g4, g5, g6⟩
  · have hown : w.ownsRow w.heap.size e 1 (.slice none 0 0) 0 [] := ⟨rfl, Or.inl ⟨rfl, rfl⟩⟩
    refine wpList_append_own w hg s x t hop w.heap.size e i z 1 bytes h1 h2 h3 h4 h5 h6 (by omega) _ _ _ hs hown ⟨T, 0, none⟩ 1 c [u] hx rfl hnews (by simpa using h1c) (by unfold maxLen; omega) (by simp at hbm; omega) (Nat.le_refl _) ?_
    intro v' w' ho hgr hnil
    refine h v' w' ?_ (Chg.of_kept ((Kept.refl [] w).grown hgr (fun k hk => by simp [Value.ownBlock] at hk)))
    obtain ⟨hl, ho | ⟨g, cap, cur, hv, hg', hh, hcap, hmax, hsz, htk⟩⟩ := ho
    · exact absurd (hnil.1 ho.1) (by simp)
    · refine Or.inr ⟨g, 0, cap, cur, by simpa using hv, by omega, hh, by simp at hsz ⊢; omega, by simpa using hcap, fun j u' hj => ?_⟩
      have e1 : (cur.toList.take 1)[j]? = some u' := by
        have : cur.toList.take 1 = [u] := by simpa using htk
        rw [this]
        simpa using hj
      have hj1 : j < 1 := by
        rcases Nat.lt_or_ge j 1 with h | h
        · exact h
        · rw [List.getElem?_eq_none (by simp; omega)] at hj; cases hj
      rw [List.getElem?_take, if_pos hj1] at e1
      simpa using e1
  · have hlt := lt_of_block g3
    refine wpList_append_arg w hg s x t hop e i z 1 bytes h1 h2 h3 h4 h5 h6 (by omega) S off xs.length cap xs hs (by simp) (fun j u' hj => by rw [cell_of_heap g3]; exact g6 j u' hj) ⟨T, 0, none⟩ 1 c [u] hx rfl hnews (by simpa using h1c) ?_ (by unfold maxLen; omega) (by omega) ?_ ?_
    · intro hr j hj
      have hj0 : j = 0 := by simpa using hj
      subst hj0
      have hk : off + xs.length * 1 + 0 < cur.size := by omega
      exact ⟨by rw [cell_of_heap g3]; simp; omega, free_of_heap g3⟩
    · intro hr
      rw [setCells_one, Nat.mul_one]
      refine h _ _ (Or.inr ⟨S, off, cap, cur.setIfInBounds (off + xs.length) u, by simp, g2, heap_setCell_same g3 u, by simpa using g4, by simpa using hr, fun j u' hj => ?_⟩) (Chg.one ((Kept.refl [S] w).setCell (p := ⟨S, off + xs.length, none⟩) (Or.inl (by simp)) _) g2 g3 (by simp))
      rw [Array.getElem?_setIfInBounds]
      by_cases hjl : j < xs.length
      · rw [List.getElem?_append_left hjl] at hj
        rw [if_neg (by omega)]
        exact g6 j u' hj
      · rw [List.getElem?_append_right (by omega)] at hj
        have hj0 : j - xs.length = 0 := by
          rcases Nat.eq_zero_or_pos (j - xs.length) with h | h
          · exact h
          · rw [List.getElem?_eq_none (by simp; omega)] at hj; cases hj
        rw [hj0] at hj
        simp at hj
        rw [if_pos (by omega), if_pos (by omega), hj]
    · intro hr v' w' ho hgr
      refine h v' w' ?_ (Chg.of_kept ((Kept.refl [] w).grown hgr (fun k hk => by cases hk)))
      obtain ⟨hl, ho | ⟨g, cap', cur', hv, hg', hh, hcap, hmax, hsz, htk⟩⟩ := ho
      · exact absurd ho.2 (by simp)
      · refine Or.inr ⟨g, 0, cap', cur', by simpa using hv, by omega, hh, by simp at hsz ⊢; omega, by simpa using hcap, fun j u' hj => ?_⟩
        have e1 : (cur'.toList.take (xs.length + 1))[j]? = some u' := by
          have : cur'.toList.take (xs.length + 1) = xs ++ [u] := by simpa using htk
          rw [this]
          exact hj
        have hj1 : j < xs.length + 1 := by
          rcases Nat.lt_or_ge j (xs.length + 1) with h | h
          · exact h
          · rw [List.getElem?_eq_none (by simp; omega)] at hj; cases hj
        rw [List.getElem?_take, if_pos hj1] at e1
        simpa using e1
end Go.Proofs.Ybulkcoda
