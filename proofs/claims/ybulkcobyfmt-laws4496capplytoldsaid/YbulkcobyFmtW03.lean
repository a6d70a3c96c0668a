import Derived.Test.YbulkcobyFmtW02
import Derived.Lib.SliceRun
namespace Go.Proofs.YbulkcobyFmt
open Go.RowKit Go.Extern.Stop Go.Stop Go.Extern

theorem info41 : (Ybaf.prog.info? 41).map (fun i => (i.zero, i.size, i.bytes)) = some (some .nilIface, 1, 16) := by kernel_rfl

/-- Block g is a row of nodes that begins with xs. -/
def Row (w : World) (g : Nat) (xs : List Value) : Prop := ∃ cur : Array Value, w.heap[g]? = some (.cells cur 41) ∧ xs.length ≤ cur.size ∧ cur.toList.take xs.length = xs
theorem Row.cell {w : World} {g : Nat} {xs : List Value} (h : Row w g xs) (j : Nat) (u : Value) (hj : xs[j]? = some u) : w.cell? ⟨g, j, none⟩ = some u := by
  obtain ⟨cur, hc, hl, ht⟩ := h
  have hlt : j < xs.length := by
    rcases Nat.lt_or_ge j xs.length with h | h
    · exact h
    · rw [List.getElem?_eq_none h] at hj; cases hj
  have : cur.toList[j]? = some u := by
    have e : (cur.toList.take xs.length)[j]? = some u := by rw [ht]; exact hj
    rw [List.getElem?_take, if_pos hlt] at e
    exact e
  simp only [World.cell?, hc]
  simpa using this

theorem addr_add (b off j : Nat) : (⟨b, off, none⟩ : Addr).add j = ⟨b, off + j, none⟩ := by
  by_cases h : j = 0
  · subst h; simp [Addr.add]
  · simp [Addr.add, h]

set_option maxHeartbeats 1000000 in
theorem clone_any (b off n c : Nat) (xs : List Value) (w : World) (hn : n ≤ 2000) (hl : xs.length = n) (hx : ∀ j u, xs[j]? = some u → w.cell? ⟨b, off + j, none⟩ = some u) (h1 : ∀ u ∈ xs, u.oneCell' = true) :
    Calls Ybaf.prog 10 #[.slice (some ⟨b, off, none⟩) n c] w fun e w' => ∃ g cap, e = .returned (.slice (some ⟨g, 0, none⟩) n cap) ∧ w.heap.size ≤ g ∧ Row w' g xs ∧ Kept [] w w' := by
  have q39 : ∀ (w : World) (a : Option Addr) (n c n' c' : Nat), (binOp .eql 39 (.slice a n c) (.slice none n' c')).run Ybaf.prog w = .ok (.bool a.isNone) w := fun w a n c n' c' => Lib.run_eql_slice_nil w _ _ a n c n' c' Ybaf.underlying39
  obtain ⟨i0, hi, hz0, hz1, hz2⟩ := info_parts info41
  have hown : (w.alloc (.cells #[] 41)).ownsRow w.heap.size 41 1 (.slice (some ⟨w.heap.size, 0, none⟩) 0 0) 0 [] :=
    ⟨rfl, Or.inr ⟨w.heap.size, 0, #[], rfl, Nat.le_refl _, (MapKept.heap_alloc w _).1, Nat.le_refl _, Nat.zero_le _, rfl, rfl⟩⟩
  have hx' : ∀ j u, xs[j]? = some u → (w.alloc (.cells #[] 41)).cell? ((⟨b, off, none⟩ : Addr).add j) = some u := by
    intro j u hj
    exact ((Kept.refl [] w).alloc _).cellSome (p := (⟨b, off, none⟩ : Addr).add j) (by rw [addr_add]; exact hx j u hj) (by simp)
  go_enter Ybaf.func10, Ybaf.ntmps10
  go_wp2_with (at_builtin; refine wpList_append_own _ rfl _ _ 39 rfl w.heap.size 41 i0 .nilIface 1 16 Ybaf.underlying39 hi hz0 hz1 hz2 rfl (by decide) _ _ _ rfl hown ⟨b, off, none⟩ n c xs rfl (by simpa using hl) hx' h1 ?c3 ?c4 ?c5 ?_)
  case c3 => unfold maxLen; omega
  case c4 => omega
  case c5 => simp
  · intro v' w1 hown' hgrow hnil
    have hform : ∃ g cap, v' = .slice (some ⟨g, 0, none⟩) n cap ∧ w.heap.size ≤ g ∧ Row w1 g xs := by
      obtain ⟨hlen, h | ⟨g, cap, cur, hv, hg, hh, hcap, hmax, hsz, htk⟩⟩ := hown'
      · exact absurd h.1 hnil
      · exact ⟨g, cap, hv, hg, cur, hh, by omega, by rw [hl]; simpa using htk⟩
    obtain ⟨g, cap, hv, hg, hrow⟩ := hform
    have hk : Kept [] w w1 := ((Kept.refl [] w).alloc _).grown hgrow (fun k hk => Or.inr (by simp [Value.ownBlock] at hk; omega))
    clear hown' hgrow hnil
    rw [hv]
    go_wp2
    go_ret
    exact ⟨g, cap, rfl, hg, hrow, hk⟩

theorem slice_low {P : Program} (w : World) {t e : TypeId} {i : TypeInfo} (ht : P.underlying t = some (.slice e)) (hi : P.info? e = some i) (hs : i.size = 1) (S off m c l : Nat) (x : Int) (hx : x = (l : Int)) (hl : l ≤ m) : (Instr.slice t (.slice (some ⟨S, off, none⟩) m c) (some (.int .i64 x)) none none).run P w =
    .ok (.slice (some ⟨S, (if c = l then off else off + l), none⟩) (m - l) (c - l)) w := by
  subst hx
  simp [Instr.slice, run_underlying ht, Instr.sliceBounds, run_sliceBound, sizeOf, typeInfo, hi, hs, hl, addr_add]
  split <;> rfl
theorem slice_high {P : Program} (w : World) {t e : TypeId} {i : TypeInfo} (ht : P.underlying t = some (.slice e)) (hi : P.info? e = some i) (S off m c h : Nat) (x : Int) (hx : x = (h : Int)) (hl : h ≤ c) : (Instr.slice t (.slice (some ⟨S, off, none⟩) m c) none (some (.int .i64 x)) none).run P w =
    .ok (.slice (some ⟨S, off, none⟩) h c) w := by
  subst hx
  simp [Instr.slice, run_underlying ht, Instr.sliceBounds, run_sliceBound, sizeOf, typeInfo, hi, hl, addr_add]
theorem slice_both {P : Program} (w : World) {t e : TypeId} {i : TypeInfo} (ht : P.underlying t = some (.slice e)) (hi : P.info? e = some i) (hs : i.size = 1) (S off m c l h : Nat) (x y : Int) (hx : x = (l : Int)) (hy : y = (h : Int)) (hl : l ≤ h) (hh : h ≤ c) : (Instr.slice t (.slice (some ⟨S, off, none⟩) m c) (some (.int .i64 x)) (some (.int .i64 y)) none).run P w =
    .ok (.slice (some ⟨S, (if c = l then off else off + l), none⟩) (h - l) (c - l)) w := by
  subst hx; subst hy
  simp [Instr.slice, run_underlying ht, Instr.sliceBounds, run_sliceBound, sizeOf, typeInfo, hi, hs, hl, hh, addr_add]
  split <;> rfl
end Go.Proofs.YbulkcobyFmt
