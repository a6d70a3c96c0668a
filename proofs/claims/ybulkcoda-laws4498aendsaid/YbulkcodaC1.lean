import Derived.Test.YbulkcodaKept
import Derived.Test.YbulkcodaLocks
import Derived.Conc.MuLone
import Derived.Lib.SliceRun
import Derived.Deep.QuietTactic
import Derived.BigQuiet
import Derived.Deep.RegionHeld3
import Derived.Deep.AppendLies
import Derived.Deep.DeepAppendWide
import Derived.Laws.BytesArg
namespace Go.Proofs.Ybulkcoda
open Go.RowKit Go.MuLone

theorem infoU8 : (Yba.prog.info? 5).map (fun i => (i.zero, i.size, i.bytes)) = some (some (.int .u8 0), 1, 1) := by kernel_rfl
theorem info84 : (Yba.prog.info? 84).map (fun i => (i.zero, i.size, i.bytes)) = some (some (.slice none 0 0), 1, 24) := by kernel_rfl

/-- Block g is a row of elements of type t that begins with xs. -/
def Row (t : TypeId) (w : World) (g : Nat) (xs : List Value) : Prop := ∃ cur : Array Value, w.heap[g]? = some (.cells cur t) ∧ xs.length ≤ cur.size ∧ cur.toList.take xs.length = xs
theorem Row.cell {t : TypeId} {w : World} {g : Nat} {xs : List Value} (h : Row t w g xs) (j : Nat) (u : Value) (hj : xs[j]? = some u) : w.cell? ⟨g, j, none⟩ = some u := by
  obtain ⟨cur, hc, hl, ht⟩ := h
  have hlt : j < xs.length := by
    rcases Nat.lt_or_ge j xs.length with h | h
    · exact h
    · rw [List.getElem?_eq_none h] at hj; cases hj
  have : cur.toList[j]? = some u := by
    have e : (cur.toList.take xs.length)[j]? = some u := by rw [ht]; exact hj
    rw [List.getElem?_take, if_pos hlt] at e
    exact e
  simp only [World.cell?, hc]
  simpa using this
theorem Row.lt {t : TypeId} {w : World} {g : Nat} {xs : List Value} (h : Row t w g xs) : g < w.heap.size := by
  obtain ⟨cur, h1, _⟩ := h
  exact lt_of_block h1
theorem Row.kept {t : TypeId} {ex : List Nat} {w w' : World} {g : Nat} {xs : List Value} (h : Row t w g xs) (k : Kept ex w w') (he : ¬ g ∈ ex) : Row t w' g xs := by
  obtain ⟨cur, h1, h2, h3⟩ := h
  exact ⟨cur, (k.block g (lt_of_block h1) he).trans h1, h2, h3⟩

theorem q84 : ∀ (w : World) (a : Option Addr) (n c n' c' : Nat), (binOp .eql 84 (.slice a n c) (.slice none n' c')).run Yba.prog w = .ok (.bool a.isNone) w := fun w a n c n' c' => Lib.run_eql_slice_nil w _ _ a n c n' c' Yba.underlying84
theorem q88 : ∀ (w : World) (a : Option Addr) (n c n' c' : Nat), (binOp .eql 88 (.slice a n c) (.slice none n' c')).run Yba.prog w = .ok (.bool a.isNone) w := fun w a n c n' c' => Lib.run_eql_slice_nil w _ _ a n c n' c' Yba.underlying88

set_option maxHeartbeats 1000000 in
theorem bclone_some (ad : Addr) (n c : Nat) (xs : List Value) (w : World) (hn : n ≤ 140737488351232) (hl : xs.length = n) (hx : ∀ j u, xs[j]? = some u → w.cell? (ad.add j) = some u) (h1 : ∀ u ∈ xs, u.oneCell' = true) :
    Calls Yba.prog 14 #[.slice (some ad) n c] w fun e w' => ∃ g cap, e = .returned (.slice (some ⟨g, 0, none⟩) n cap) ∧ w.heap.size ≤ g ∧ Row 5 w' g xs ∧ Kept [] w w' := by
  have q := q84
  obtain ⟨i0, hi, hz0, hz1, hz2⟩ := info_parts infoU8
  have hown : (w.alloc (.cells #[] 5)).ownsRow w.heap.size 5 1 (.slice (some ⟨w.heap.size, 0, none⟩) 0 0) 0 [] :=
    ⟨rfl, Or.inr ⟨w.heap.size, 0, #[], rfl, Nat.le_refl _, (MapKept.heap_alloc w _).1, Nat.le_refl _, Nat.zero_le _, rfl, rfl⟩⟩
  have hx' : ∀ j u, xs[j]? = some u → (w.alloc (.cells #[] 5)).cell? (ad.add j) = some u := by
    intro j u hj
    exact ((Kept.refl [] w).alloc _).cellSome (hx j u hj) (by simp)
  go_enter Yba.func14, Yba.ntmps14
  go_wp2_with (at_builtin; refine wpList_append_own_wide _ rfl _ _ 84 rfl w.heap.size 5 i0 (.int .u8 0) 1 1 Yba.underlying84 hi hz0 hz1 hz2 rfl (by decide) _ _ _ rfl hown ad n c xs rfl (by simpa using hl) hx' h1 ?c3 ?c4 ?c5 ?_)
  case c3 => unfold maxLen; omega
  case c4 => omega
  case c5 => simp
  · intro v' w1 hown' hgrow hnil
    have hform : ∃ g cap, v' = .slice (some ⟨g, 0, none⟩) n cap ∧ w.heap.size ≤ g ∧ Row 5 w1 g xs := by
      obtain ⟨hlen, h | ⟨g, cap, cur, hv, hg, hh, hcap, hmax, hsz, htk⟩⟩ := hown'
      · exact absurd h.1 hnil
      · exact ⟨g, cap, by simpa using hv, hg, cur, hh, by simp at hcap hsz; omega, by rw [hl]; simpa using htk⟩
    obtain ⟨g, cap, hv, hg, hrow⟩ := hform
    have hk : Kept [] w w1 := ((Kept.refl [] w).alloc _).grown hgrow (fun k hk => Or.inr (by simp [Value.ownBlock] at hk; omega))
    clear hown' hgrow hnil
    rw [hv]
    go_wp2
    go_ret
    exact ⟨g, cap, rfl, hg, hrow, hk⟩

set_option maxHeartbeats 400000 in
theorem bclone_nil (n c : Nat) (w : World) : Calls Yba.prog 14 #[.slice none n c] w fun e w' => e = .returned (.slice none 0 0) ∧ w' = w := by
  have q := q84
  go_enter Yba.func14, Yba.ntmps14
  go_wp2
  go_ret
  exact ⟨rfl, rfl⟩

set_option maxHeartbeats 1000000 in
theorem sclone_some (ad : Addr) (n c : Nat) (xs : List Value) (w : World) (hn : n ≤ 2000) (hl : xs.length = n) (hx : ∀ j u, xs[j]? = some u → w.cell? (ad.add j) = some u) (h1 : ∀ u ∈ xs, u.oneCell' = true) :
    Calls Yba.prog 25 #[.slice (some ad) n c] w fun e w' => ∃ g cap, e = .returned (.slice (some ⟨g, 0, none⟩) n cap) ∧ w.heap.size ≤ g ∧ Row 84 w' g xs ∧ Kept [] w w' := by
  have q := q88
  obtain ⟨i0, hi, hz0, hz1, hz2⟩ := info_parts info84
  have hown : (w.alloc (.cells #[] 84)).ownsRow w.heap.size 84 1 (.slice (some ⟨w.heap.size, 0, none⟩) 0 0) 0 [] :=
    ⟨rfl, Or.inr ⟨w.heap.size, 0, #[], rfl, Nat.le_refl _, (MapKept.heap_alloc w _).1, Nat.le_refl _, Nat.zero_le _, rfl, rfl⟩⟩
  have hx' : ∀ j u, xs[j]? = some u → (w.alloc (.cells #[] 84)).cell? (ad.add j) = some u := by
    intro j u hj
    exact ((Kept.refl [] w).alloc _).cellSome (hx j u hj) (by simp)
  go_enter Yba.func25, Yba.ntmps25
  go_wp2_with (at_builtin; refine wpList_append_own_wide _ rfl _ _ 88 rfl w.heap.size 84 i0 (.slice none 0 0) 1 24 Yba.underlying88 hi hz0 hz1 hz2 rfl (by decide) _ _ _ rfl hown ad n c xs rfl (by simpa using hl) hx' h1 ?c3 ?c4 ?c5 ?_)
  case c3 => unfold maxLen; omega
  case c4 => omega
  case c5 => simp
  · intro v' w1 hown' hgrow hnil
    have hform : ∃ g cap, v' = .slice (some ⟨g, 0, none⟩) n cap ∧ w.heap.size ≤ g ∧ Row 84 w1 g xs := by
      obtain ⟨hlen, h | ⟨g, cap, cur, hv, hg, hh, hcap, hmax, hsz, htk⟩⟩ := hown'
      · exact absurd h.1 hnil
      · exact ⟨g, cap, by simpa using hv, hg, cur, hh, by simp at hcap hsz; omega, by rw [hl]; simpa using htk⟩
    obtain ⟨g, cap, hv, hg, hrow⟩ := hform
    have hk : Kept [] w w1 := ((Kept.refl [] w).alloc _).grown hgrow (fun k hk => Or.inr (by simp [Value.ownBlock] at hk; omega))
    clear hown' hgrow hnil
    rw [hv]
    go_wp2
    go_ret
    exact ⟨g, cap, rfl, hg, hrow, hk⟩

set_option maxHeartbeats 400000 in
theorem sclone_nil (n c : Nat) (w : World) : Calls Yba.prog 25 #[.slice none n c] w fun e w' => e = .returned (.slice none 0 0) ∧ w' = w := by
  have q := q88
  go_enter Yba.func25, Yba.ntmps25
  go_wp2
  go_ret
  exact ⟨rfl, rfl⟩

/-- What 'string(b)' of a byte slice gives. -/
def Says (w : World) (v : Value) (s : ByteArray) : Prop := ∀ w', Kept [] w w' → (convert 84 9 v).run Yba.prog w' = .ok (.string s) w'

set_option maxHeartbeats 400000 in
theorem equal_same (a b : Value) (s : ByteArray) (w : World) (ha : (convert 84 9 a).run Yba.prog w = .ok (.string s) w) (hb : (convert 84 9 b).run Yba.prog w = .ok (.string s) w) :
    Calls Yba.prog 16 #[a, b] w fun e w' => e = .returned (.bool true) ∧ w' = w := by
  go_enter Yba.func16, Yba.ntmps16
  go_wp2
  go_ret
  exact ⟨by simp, rfl⟩
end Go.Proofs.Ybulkcoda
