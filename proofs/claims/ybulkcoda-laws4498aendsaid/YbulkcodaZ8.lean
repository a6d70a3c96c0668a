import Derived.Test.YbulkcodaZ7
namespace Go.Proofs.Ybulkcoda
open Go.RowKit

/-- What stands behind endService, a job having waited. -/
structure Busy (w : World) (B L A X V Q S K now b u h : Nat) (q : Value) (h' : Int) (e : Value) (cur : Array Value) : Prop where
  log : ∃ v, w.heap[L]? = some (.cells #[v] 24) ∧ Sl1 B w 3 v (.int .i64 (-1))
  srv : ∃ v, w.heap[A]? = some (.cells #[v] 25) ∧ Sl1 B w 4 v (.bool true)
  x : w.heap[X]? = some (.cells #[.pointer (some ⟨V, 0, none⟩)] 26)
  v : w.heap[V]? = some (.cells (svC true q h' (.func (Fn.func 8) #[] #[.pointer (some ⟨L, 0, none⟩), .pointer (some ⟨K, 0, none⟩)]) e b u) 29)
  q : w.heap[Q]? = some (.cells cur 31)
  k : w.heap[K]? = some (.cells #[.int .i64 (h : Nat)] 3)
  ev : AtRes w S now u e

theorem Sl1.kept0 {B : Nat} {w w' : World} {t : TypeId} {v x : Value} (h : Sl1 B w t v x) (k : Kept [] w w') : Sl1 B w' t v x := h.kept k (fun i hi => by simp at hi)
theorem Busy.kept {w w' : World} {B L A X V Q S K now b u h : Nat} {q : Value} {h' : Int} {e : Value} {cur : Array Value} (H : Busy w B L A X V Q S K now b u h q h' e cur) (k : Kept [] w w') : Busy w' B L A X V Q S K now b u h q h' e cur := by
  have hb : ∀ {b : Nat} {o : Obj}, w.heap[b]? = some o → w'.heap[b]? = some o := fun {b o} hh => (k.block b (lt_of_block hh) (by simp)).trans hh
  obtain ⟨v1, l1, l2⟩ := H.log
  obtain ⟨v2, m1, m2⟩ := H.srv
  exact ⟨⟨v1, hb l1, l2.kept0 k⟩, ⟨v2, hb m1, m2.kept0 k⟩, hb H.x, hb H.v, hb H.q, hb H.k, H.ev.kept k (fun b cur ty fr hm => by simp at hm)⟩
theorem Sl.out {B : Nat} {t : TypeId} {w : World} {v : Value} {xs : List Value} (h : Sl B t w v xs) (h0 : 0 < xs.length) : ∃ S off cap, v = .slice (some ⟨S, off, none⟩) xs.length cap ∧ ∀ (j : Nat) (u : Value), xs[j]? = some u → w.cell? ⟨S, off + j, none⟩ = some u := by
  rcases h with ⟨_, rfl⟩ | ⟨S, off, cap, cur, h1, h2, h3, h4, h5, h6⟩
  · simp at h0
  · exact ⟨S, off, cap, h1, fun j u hj => by rw [cell_of_heap h3]; exact h6 j u hj⟩
/-- The cells that the law reads. -/
theorem Busy.cells {w : World} {B L A X V Q S K now b u h : Nat} {q : Value} {h' : Int} {e : Value} {cur : Array Value} (H : Busy w B L A X V Q S K now b u h q h' e cur) :
    ∃ g cp g' cp', w.cell? ⟨L, 0, none⟩ = some (.slice (some ⟨g, 0, none⟩) 1 cp) ∧ w.cell? ⟨g, 0, none⟩ = some (.int .i64 (-1)) ∧ w.cell? ⟨A, 0, none⟩ = some (.slice (some ⟨g', 0, none⟩) 1 cp') ∧ w.cell? ⟨g', 0, none⟩ = some (.bool true) ∧ w.cell? ⟨X, 0, none⟩ = some (.pointer (some ⟨V, 0, none⟩)) := by
  obtain ⟨v1, l1, g, cp, cs, rfl, _, l2, l3, _⟩ := H.log
  obtain ⟨v2, m1, g', cp', cs', rfl, _, m2, m3, _⟩ := H.srv
  exact ⟨g, cp, g', cp', by rw [cell_of_heap l1]; rfl, by rw [cell_of_heap l2]; exact l3, by rw [cell_of_heap m1]; rfl, by rw [cell_of_heap m2]; exact m3, by rw [cell_of_heap H.x]; rfl⟩

theorem AtRes.yes {w : World} {S now t : Nat} {fn : Value} (h : AtRes w S now t fn) (hb : before t = true) : ∃ g cap, w.cell? ⟨S, 1, none⟩ = some (.slice (some ⟨g, 0, none⟩) 1 cap) ∧ w.cell? ⟨S, 2, none⟩ = some (.int .u64 1) ∧ w.cell? ⟨S, 12, none⟩ = some .nilIface ∧ w.cell? ⟨g, 0, none⟩ = some (.float .f64 t) ∧ w.cell? ⟨g, 1, none⟩ = some (.int .u64 1) := by
  rcases h with ⟨_, ev, h1, g, cap, cur, rfl, h3, h4, h5, _⟩ | ⟨h0, _⟩
  · obtain ⟨_, y1, y2, y3, _⟩ := h1.cells
    exact ⟨g, cap, y1, y2, y3, by rw [cell_of_heap h3]; exact h4, by rw [cell_of_heap h3]; exact h5⟩
  · rw [hb] at h0; cases h0
theorem AtRes.no {w : World} {S now t : Nat} {fn : Value} (h : AtRes w S now t fn) (hb : before t = false) : ∃ T, w.cell? ⟨S, 1, none⟩ = some (.slice none 0 0) ∧ w.cell? ⟨S, 2, none⟩ = some (.int .u64 0) ∧ w.cell? ⟨S, 12, none⟩ = some (.iface 60 (.pointer (some ⟨T, 0, none⟩))) ∧ w.cell? ⟨T, 0, none⟩ = some (.float .f64 now) ∧ w.cell? ⟨T, 1, none⟩ = some (.int .i64 0) ∧ w.cell? ⟨T, 2, none⟩ = some (.float .f64 t) := by
  rcases h with ⟨h0, _⟩ | ⟨_, T, h1, h2⟩
  · rw [hb] at h0; cases h0
  · obtain ⟨_, y1, y2, y3, _⟩ := h1.cells
    exact ⟨T, y1, y2, y3, by rw [cell_of_heap h2]; rfl, by rw [cell_of_heap h2]; rfl, by rw [cell_of_heap h2]; rfl⟩
theorem below_chg {B : Nat} {ts : List TypeId} {w W W' w' : World} (h : Below B w W) (k : Kept [] W W') (m : Chg B ts W' w') (hB : B ≤ W.heap.size) : Below B w w' :=
  (h.trans (k.below hB (by simp))).trans (m.below (Nat.le_trans hB k.size))
theorem ta60 (w : World) (v : Value) : (Instr.typeAssert (.iface 60 v) 42 60 true).run Yba.prog w = .ok (.tuple #[v, .bool true]) w := by kernel_rfl
/-- 'until >= 0 && until < 1<<35' holds. -/
theorem bef_yes {now d : Nat} (hb : bef (floatBits .add .f64 now d) = true) : (∀ w : World, FloatKind.f64.format.order (fV .add now d w) 0 = some .gt ∨ FloatKind.f64.format.order (fV .add now d w) 0 = some .eq) ∧ ∀ w : World, FloatKind.f64.format.order (fV .add now d w) 4764808405757984768 = some .lt := by
  have h : ∀ w : World, before (fV .add now d w) = true := fun w => (before_res (fV_res .add now d w)).trans hb
  refine ⟨fun w => ?_, fun w => ?_⟩
  · rcases before_cases (fV .add now d w) with ⟨_, h1, _⟩ | ⟨h0, _⟩
    · exact h1
    · rw [h w] at h0; cases h0
  · rcases before_cases (fV .add now d w) with ⟨_, _, h2⟩ | ⟨h0, _⟩
    · exact h2
    · rw [h w] at h0; cases h0
/-- .. does not. -/
theorem bef_no {now d : Nat} (hb : bef (floatBits .add .f64 now d) = false) : ∀ w : World, (FloatKind.f64.format.order (fV .add now d w) 0 = some .gt ∨ FloatKind.f64.format.order (fV .add now d w) 0 = some .eq) → ¬ FloatKind.f64.format.order (fV .add now d w) 4764808405757984768 = some .lt := by
  intro w h1 h2
  have h : before (fV .add now d w) = false := (before_res (fV_res .add now d w)).trans hb
  unfold before at h
  rcases h1 with h1 | h1 <;> rw [h1, h2] at h <;> simp at h

theorem bad_yes {now d : Nat} (hB : ∀ w : World, FloatKind.f64.format.order (fV .add now d w) 0 = some .gt ∨ FloatKind.f64.format.order (fV .add now d w) 0 = some .eq) {w : World}
    (h : (FloatKind.f64.format.order (fV .add now d w) 0 == some .gt) = false ∧ (FloatKind.f64.format.order (fV .add now d w) 0 == some .eq) = false) : False := by
  rcases hB w with h1 | h1 <;> rw [h1] at h <;> simp at h
theorem bad_no {now d : Nat} (hB : ∀ w : World, (FloatKind.f64.format.order (fV .add now d w) 0 = some .gt ∨ FloatKind.f64.format.order (fV .add now d w) 0 = some .eq) → ¬ FloatKind.f64.format.order (fV .add now d w) 4764808405757984768 = some .lt) {w : World}
    (h1 : FloatKind.f64.format.order (fV .add now d w) 0 = some .gt ∨ FloatKind.f64.format.order (fV .add now d w) 0 = some .eq)
    (h : ((FloatKind.f64.format.order (fV .add now d w) 0 == some .gt) = true ∨ (FloatKind.f64.format.order (fV .add now d w) 0 == some .eq) = true) ∧ (FloatKind.f64.format.order (fV .add now d w) 4764808405757984768 == some .lt) = true) : False :=
  hB w h1 (by simpa using h.2)

/-- endService at the law's own server, a job waiting. -/
theorem ends_law (A X V S Q n c h now b u : Nat) (E : Nat → Nat) (e : Value) (w3 : World) (B : Nat) (hB : B ≤ w3.heap.size) (hn : n ≤ 1024) (hh : h < n) (he : e = .nilFunc ∨ ∃ g1 g2 g3, e = .func g1 g2 g3)
    (t1 : w3.heap[B]? = some (.cells #[.slice none 0 0] 24)) (t2 : w3.heap[A]? = some (.cells #[.slice none 0 0] 25)) (t4 : w3.heap[X]? = some (.cells #[.pointer (some ⟨V, 0, none⟩)] 26))
    (hV : w3.heap[V]? = some (.cells (svC true (.slice (some ⟨Q, 0, none⟩) n c) (h : Int) (.func (Fn.func 9) #[] #[.pointer (some ⟨B, 0, none⟩), .pointer (some ⟨A, 0, none⟩), .pointer (some ⟨X, 0, none⟩)]) e b u) 29))
    (hJ : Jobs w3 B Q n n E) (hS : Sim w3 S now (.slice none 0 0) (.int .u64 0) .nilIface) (hbA : B ≤ A) (hbV : B ≤ V) (hbQ : B ≤ Q) (hbS : B ≤ S) :
    Calls Yba.prog 11 #[.pointer (some ⟨V, 0, none⟩), .pointer (some ⟨S, 0, none⟩)] w3 fun r w4 => r = .returned (.tuple #[]) ∧ ∃ K q' h' g1 g2 g3 b' u' cur, QH Q n c h q' h' ∧ Res (floatBits .add .f64 b (E h)) b' ∧ Res (floatBits .add .f64 now (E h)) u' ∧ (e = .nilFunc ∨ Value.func g1 g2 g3 = e) ∧
      Busy w4 B B A X V Q S K now b' u' h q' h' (.func g1 g2 g3) cur ∧ cur[h * 2]? = some (.float .f64 0) ∧ cur[h * 2 + 1]? = some .nilFunc ∧ (∀ i, h < i → i < n → cur[i * 2]? = some (.float .f64 (E i)) ∧ ∃ f, cur[i * 2 + 1]? = some (.func (Fn.func 8) #[] f)) ∧ Below B w3 w4 := by
  obtain ⟨cur, c1, c2, c3⟩ := hJ
  obtain ⟨a0, K, a1, a2⟩ := c3 h hh
  refine (ends_busy B A X V S Q n c h (E h) now b u (Fn.func 8) #[] #[.pointer (some ⟨B, 0, none⟩), .pointer (some ⟨K, 0, none⟩)] cur e w3 hn hh he t1 t2 t4 hV ⟨c1, a0, a1⟩ hS).mono ?_
  rintro r w4 ⟨rfl, wm, ⟨q', h', g1, g2, g3, b', u', s1, s2, s3, s4, s5, s6, s7, s8⟩, ⟨lv, av, o1, o2, o5, o6⟩, hk⟩
  obtain ⟨cS, hc, _⟩ := hS
  have lift : ∀ {x : Nat} {cs : Array Value} {t : TypeId}, w3.heap[x]? = some (.cells cs t) → t ≠ 29 → t ≠ 31 → t ≠ 55 → wm.heap[x]? = some (.cells cs t) := fun {x cs t} hx n1 n2 n3 => (s8.block x (lt_of_block hx) (fun hm => by
    simp at hm
    rcases hm with rfl | rfl | rfl
    · exact n1 (tag_eq hx hV)
    · exact n2 (tag_eq hx c1)
    · exact n3 (tag_eq hx hc))).trans hx
  have u1 := lift t1 (by decide) (by decide) (by decide)
  have u2 := lift t2 (by decide) (by decide) (by decide)
  have u4 := lift t4 (by decide) (by decide) (by decide)
  have uK := lift a2 (by decide) (by decide) (by decide)
  have lift2 : ∀ {x : Nat} {cs : Array Value} {t : TypeId}, wm.heap[x]? = some (.cells cs t) → t ≠ 24 → t ≠ 25 → w4.heap[x]? = some (.cells cs t) := fun {x cs t} hx n1 n2 => (hk.block x (lt_of_block hx) (fun hm => by
    simp at hm
    rcases hm with rfl | rfl
    · exact n1 (tag_eq hx u1)
    · exact n2 (tag_eq hx u2))).trans hx
  have hz : B ≤ wm.heap.size := Nat.le_trans hB s8.size
  have up : ∀ {t : TypeId} {v x : Value}, Sl1 wm.heap.size w4 t v x → Sl1 B w4 t v x := fun {t v x} ⟨g, cp, cs, p1, p2, p3⟩ => ⟨g, cp, cs, p1, Nat.le_trans hz p2, p3⟩
  have hsz : h * 2 + 1 < cur.size := by omega
  refine ⟨rfl, K, q', h', g1, g2, g3, b', u', _, s1, s2, s3, s4, ⟨⟨lv, o1, up o2⟩, ⟨av, o5, up o6⟩, lift2 u4 (by decide) (by decide), lift2 s5 (by decide) (by decide), lift2 s6 (by decide) (by decide), lift2 uK (by decide) (by decide), s7.kept hk ?_⟩, ?_, ?_, ?_, ?_⟩
  · intro x cs ty fr hm hx
    simp at hm
    rcases hm with rfl | rfl
    · rw [tag_eq hx u1]; exact ⟨by decide, by decide, by decide⟩
    · rw [tag_eq hx u2]; exact ⟨by decide, by decide, by decide⟩
  · rw [Array.getElem?_setIfInBounds, if_neg (by omega), Array.getElem?_setIfInBounds, if_pos rfl, if_pos (by omega)]
  · rw [Array.getElem?_setIfInBounds, if_pos rfl, if_pos (by simp; omega)]
  · intro i hi hin
    obtain ⟨d0, K', d1, _⟩ := c3 i hin
    exact ⟨by rw [Array.getElem?_setIfInBounds, if_neg (by omega), Array.getElem?_setIfInBounds, if_neg (by omega)]; exact d0, _, by rw [Array.getElem?_setIfInBounds, if_neg (by omega), Array.getElem?_setIfInBounds, if_neg (by omega)]; exact d1⟩
  · exact (s8.below hB (by simp; omega)).trans (hk.below hz (by simp; omega))
end Go.Proofs.Ybulkcoda
