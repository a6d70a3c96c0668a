import Derived.Test.YbulkcodaS3
namespace Go.Proofs.Ybulkcoda
open Go.RowKit Go.MuLone

/-- The numbers as cells. -/
def ints (mq : List Nat) : List Value := mq.map fun i => .int .i64 (i : Nat)

/-- The outbox O beside the plain model: behind p operations. -/
structure Scr (w : World) (B O p md ms : Nat) (mq : List Nat) (qv mv : Value) (qs : List Value) : Prop where
  box : w.heap[O]? = some (.cells (oC qv md ms) 100)
  q : Sl B 84 w qv qs
  m : Sl B 3 w mv (ints mq)
  len : qs.length = mq.length
  enc : ∀ (j i : Nat), mq[j]? = some i → i ≤ 2000 ∧ ∃ v, qs[j]? = some v ∧ Enc B w v i
  shown : ms ≤ md + mq.length
  small : md + mq.length ≤ 40 + p
  short : mq.length ≤ p
  hO : B ≤ O

theorem Scr.chg {w w' : World} {B O p md ms : Nat} {mq : List Nat} {qv mv : Value} {qs : List Value} {ts : List TypeId} {B' : Nat} (h : Scr w B O p md ms mq qv mv qs) (k : Chg B' ts w w') (h1 : ¬ 100 ∈ ts) (h2 : ¬ 84 ∈ ts) (h3 : ¬ 3 ∈ ts) (h4 : ¬ 5 ∈ ts) : Scr w' B O p md ms mq qv mv qs :=
  ⟨k.block h.box h1, h.q.chg k h2, h.m.chg k h3, h.len, fun j i hj => ⟨(h.enc j i hj).1, by obtain ⟨v, a, b⟩ := (h.enc j i hj).2; exact ⟨v, a, b.chg k h4⟩⟩, h.shown, h.small, h.short, h.hO⟩
theorem Scr.more {w : World} {B O p p' md ms : Nat} {mq : List Nat} {qv mv : Value} {qs : List Value} (h : Scr w B O p md ms mq qv mv qs) (hp : p ≤ p') : Scr w B O p' md ms mq qv mv qs :=
  ⟨h.box, h.q, h.m, h.len, h.enc, h.shown, by have := h.small; omega, by have := h.short; omega, h.hO⟩

theorem Sl.len {B : Nat} {t : TypeId} {w : World} {a : Option Addr} {n c : Nat} {xs : List Value} (h : Sl B t w (.slice a n c) xs) : n = xs.length := by
  rcases h with ⟨h, rfl⟩ | ⟨S, off, cap, cur, h1, _⟩
  · simpa using (Value.slice.inj h).2.1
  · injection h1
theorem Sl.drop {B : Nat} {t : TypeId} {w : World} {S off cap o' k : Nat} {xs : List Value} (h : Sl B t w (.slice (some ⟨S, off, none⟩) xs.length cap) xs) (hk : k ≤ xs.length) (ho : o' = if cap = k then off else off + k) :
    Sl B t w (.slice (some ⟨S, o', none⟩) (xs.length - k) (cap - k)) (xs.drop k) := by
  rcases h with h | ⟨S', off', cap', cur, h1, h2, h3, h4, h5, h6⟩
  · cases h.1
  · obtain ⟨e1, _, e3⟩ := Value.slice.inj h1
    have e : S = S' ∧ off = off' := by simpa using e1
    obtain ⟨rfl, rfl⟩ := e
    subst e3
    refine Or.inr ⟨S, o', cap - k, cur, by simp, h2, h3, ?_, by simp; omega, fun j u hj => ?_⟩
    · rw [ho]; split <;> omega
    · rw [List.getElem?_drop] at hj
      have hjl : k + j < xs.length := by
        rcases Nat.lt_or_ge (k + j) xs.length with h | h
        · exact h
        · rw [List.getElem?_eq_none h] at hj; cases hj
      rw [ho, if_neg (by omega), show off + k + j = off + (k + j) by omega]
      exact h6 (k + j) u hj
theorem Sl.some {B : Nat} {t : TypeId} {w : World} {a : Option Addr} {n c : Nat} {xs : List Value} (h : Sl B t w (.slice a n c) xs) (h0 : 0 < n) : ∃ S off, a = Option.some ⟨S, off, none⟩ := by
  rcases h with ⟨h, _⟩ | ⟨S, off, cap, cur, h1, _⟩
  · have := (Value.slice.inj h).2.1; omega
  · exact ⟨S, off, (Value.slice.inj h1).1⟩
theorem conv_enc {B : Nat} {w : World} {v : Value} {i : Nat} (h : Enc B w v i) : (convert 84 9 v).run Yba.prog w = .ok (.string (strOfNums [(i : Int) % 256, (i : Int) / 256])) w := by
  obtain ⟨g, rfl, _, hg⟩ := h
  refine run_convert_bytes_arg w 84 5 Yba.underlying84 Yba.underlying5 g 0 2 2 _ rfl (fun j hj => ?_) 9 Yba.underlying9
  rw [cell_of_heap hg]
  match j, hj with
  | 0, _ => rfl
  | 1, _ => rfl
theorem equal_kept (a b : Value) (s : ByteArray) (w : World) (ha : (convert 84 9 a).run Yba.prog w = .ok (.string s) w) (hb : (convert 84 9 b).run Yba.prog w = .ok (.string s) w) :
    Calls Yba.prog 16 #[a, b] w fun e w' => e = .returned (.bool true) ∧ Kept [] w w' := (equal_same a b s w ha hb).mono fun e w' ⟨h1, h2⟩ => ⟨h1, by rw [h2]; exact Kept.refl _ _⟩
theorem two_set {W : World} {a b : Addr} {va vb x : Value} {T k : Nat} (h : W.cell? a = some va ∧ W.cell? b = some vb) (ha : a ≠ ⟨T, k, none⟩) (hb : b ≠ ⟨T, k, none⟩) : (W.setCell ⟨T, k, none⟩ x).cell? a = some va ∧ (W.setCell ⟨T, k, none⟩ x).cell? b = some vb :=
  ⟨(World.cell?_setCell_other _ _ _ _ (fun e => ha e.symm)).trans h.1, (World.cell?_setCell_other _ _ _ _ (fun e => hb e.symm)).trans h.2⟩
theorem enc_append {B p : Nat} {w : World} {mq : List Nat} {qs : List Value} {v : Value} (hl : qs.length = mq.length) (h : ∀ (j i : Nat), mq[j]? = some i → i ≤ 2000 ∧ ∃ v, qs[j]? = some v ∧ Enc B w v i) (hv : Enc B w v p) (hp : p ≤ 2000) :
    ∀ (j i : Nat), (mq ++ [p])[j]? = some i → i ≤ 2000 ∧ ∃ v', (qs ++ [v])[j]? = some v' ∧ Enc B w v' i := by
  intro j i hj
  by_cases hlt : j < mq.length
  · rw [List.getElem?_append_left hlt] at hj
    obtain ⟨a, v', b, c⟩ := h j i hj
    exact ⟨a, v', by rw [List.getElem?_append_left (by omega)]; exact b, c⟩
  · rw [List.getElem?_append_right (by omega)] at hj
    have hj0 : j - mq.length = 0 := by
      rcases Nat.eq_zero_or_pos (j - mq.length) with h | h
      · exact h
      · rw [List.getElem?_eq_none (by simp; omega)] at hj; cases hj
    rw [hj0] at hj
    have : p = i := by simpa using hj
    subst this
    exact ⟨hp, v, by rw [List.getElem?_append_right (by omega), hl, hj0]; rfl, hv⟩

set_option maxRecDepth 100000 in
set_option maxHeartbeats 2000000 in
theorem cscript (I off n c : Nat) (P A : Nat → Nat) (w : World) (hn : n ≤ 1024)
    (h0 : ∀ i, i < n → w.cell? ⟨I, off + i * 2, none⟩ = some (.int .u8 (P i : Nat))) (h1 : ∀ i, i < n → w.cell? ⟨I, off + i * 2 + 1, none⟩ = some (.int .u8 (A i : Nat))) (hP : ∀ i, i < n → P i < 256 ∧ A i < 256) :
    Calls Yba.prog 7 #[.slice (some ⟨I, off, none⟩) n c] w fun e w' => e = .returned (.bool true) ∧ Below w.heap.size w w' := by
  have hd : decide ((1024 : Int) < (n : Int)) = false := by simp; omega
  go_enter Yba.func7, Yba.ntmps7
  go_wp2
  have hB0 : Scr (w.alloc (.cells (oC (.slice none 0 0) 0 0) 100)) w.heap.size w.heap.size 0 0 0 [] (.slice none 0 0) (.slice none 0 0) [] :=
    ⟨(MapKept.heap_alloc w _).1, Or.inl ⟨rfl, rfl⟩, Or.inl ⟨rfl, rfl⟩, rfl, fun j i hj => by simp at hj, by simp, by simp, by simp, Nat.le_refl _⟩
  go_loopw [4, 5, 6, 21] (fun a b mv i wr => ∃ p : Nat, p ≤ n ∧ i = .int .i64 p ∧ (∃ md ms mq qv qs, a = .int .i64 (md : Nat) ∧ b = .int .i64 (ms : Nat) ∧ Scr wr w.heap.size w.heap.size p md ms mq qv mv qs) ∧ Below w.heap.size w wr) (fun _ _ _ i _ => n - (intOf i).toNat)
  case atStart => exact ⟨0, Nat.zero_le _, rfl, ⟨0, 0, [], _, _, rfl, rfl, hB0⟩, (Below.refl _ _).alloc (Nat.le_refl _) _⟩
  case round =>
    obtain ⟨p, hp, rfl, ⟨md, ms, mq, qv, qs, rfl, rfl, hS⟩, hbw⟩ := hrel
    clear hB0
    have hsm := hS.small
    have hsh := hS.shown
    have hql := hS.len
    have hst := hS.short
    by_cases hlt : p < n
    · have c0 := (hbw.cell (World.block_lt_of_cell? _ _ (h0 p hlt))).trans (h0 p hlt)
      have c1 := (hbw.cell (World.block_lt_of_cell? _ _ (h1 p hlt))).trans (h1 p hlt)
      obtain ⟨hP1, hA1⟩ := hP p hlt
      have lI : I < w.heap.size := World.block_lt_of_cell? _ _ (h0 p hlt)
      have b1 : (0 : Int) ≤ (p : Int) := by omega
      have b2 : (p : Int) < (n : Int) := by omega
      have lO : w.heap.size < wr.heap.size := lt_of_block hS.box
      obtain ⟨ma, ml, mc, rfl⟩ := hS.m.form
      have hS1 : Scr (wr.alloc (.cells #[.int .u8 (P p : Nat), .int .u8 (A p : Nat)] 107)) w.heap.size w.heap.size p md ms mq qv (.slice ma ml mc) qs := hS.chg (Chg.of_kept (B := 0) (ts := []) ((Kept.refl [] wr).alloc _)) (by simp) (by simp) (by simp) (by simp)
      have hb1 : Below w.heap.size w (wr.alloc (.cells #[.int .u8 (P p : Nat), .int .u8 (A p : Nat)] 107)) := hbw.alloc (by omega) _
      clear h0 h1 hP
      have hop : (P p : Int) % 4 = 0 ∨ (P p : Int) % 4 = 1 ∨ (P p : Int) % 4 = 2 ∨ (P p : Int) % 4 = 3 := by omega
      rcases hop with ho | ho | ho | ho
      · clear hS hbw
        go_wp2_with fail
        clear c0 c1
        refine (enc_any p _ (by omega)).mono ?_
        rintro e w1 ⟨ev, rfl, ⟨g, rfl, hg, hgh⟩, hk1⟩
        have hS2 := hS1.chg (Chg.of_kept (B := 0) (ts := []) hk1) (by simp) (by simp) (by simp) (by simp)
        have hb2 : Below w.heap.size w w1 := hb1.trans (hk1.below hb1.size (by simp))
        have hgB : w.heap.size ≤ g := by simp at hg; omega
        clear hS1 hb1 hk1
        go_wp2_with fail
        refine (push_any w.heap.size w.heap.size qv (some ⟨g, 0, none⟩) 2 2 qs md ms w1 hS2.box hS2.q (by omega) (Nat.le_refl _)).mono ?_
        rintro e w2 ⟨rfl, qv', hO2, hq2, hcg2⟩
        have hm2 : Sl w.heap.size 3 w2 (.slice ma ml mc) (ints mq) := hS2.m.chg hcg2 (by simp)
        have hen2 := enc_append (v := .slice (some ⟨g, 0, none⟩) 2 2) (p := p) hql (fun j i hj => ⟨(hS2.enc j i hj).1, by obtain ⟨v, a, b⟩ := (hS2.enc j i hj).2; exact ⟨v, a, b.chg hcg2 (by simp)⟩⟩) (Enc.chg (B := w.heap.size) ⟨g, rfl, hgB, hgh⟩ hcg2 (by simp)) (by omega)
        have hb3 : Below w.heap.size w w2 := hb2.trans (hcg2.below hb2.size)
        obtain ⟨i0, hi, hz0, hz1, hz2⟩ := info_parts info3
        have hm3 : Sl w.heap.size 3 (w2.alloc (.cells #[.int .i64 (p : Nat)] 3)) (.slice ma ml mc) (ints mq) := hm2.chg (Chg.of_kept (B := 0) (ts := []) ((Kept.refl [] w2).alloc _)) (by simp)
        have hcv : (w2.alloc (.cells #[.int .i64 (p : Nat)] 3)).cell? ⟨w2.heap.size, 0, none⟩ = some (.int .i64 (p : Nat)) := by simp [go_sem]
        have hO2' : w2.heap.size ≥ w.heap.size := hb3.size
        have hil : (ints mq).length ≤ 2000 := by simp [ints]; omega
        have Hen2 := hide hen2
        have HO2 := hide hO2
        have Hq2 := hide hq2
        clear hS2 hm2 hen2 hO2 hq2 hcg2 hb2 hgh
        go_wp2_with (at_builtin; refine wpList_append_sl rfl _ _ 24 rfl 3 i0 (.int .i64 0) 8 Yba.underlying24 hi hz0 hz1 hz2 rfl (by omega) w.heap.size _ (ints mq) rfl hm3 hil (by simp; omega) w2.heap.size 1 (.int .i64 (p : Nat)) rfl hcv rfl ?_)
        intro mv' w3 hm4 hcg3
        have hcg4 : Chg w.heap.size [3] w2 w3 := ((Chg.refl _ _ w2).alloc _).trans hcg3
        have R1 : Scr w3 w.heap.size w.heap.size (p + 1) md ms (mq ++ [p]) qv' mv' (qs ++ [.slice (some ⟨g, 0, none⟩) 2 2]) :=
          ⟨hcg4.block (unhide HO2) (by simp), (unhide Hq2).chg hcg4 (by simp), by simpa [ints] using hm4, by simp; omega, fun j i hj => ⟨(unhide Hen2 j i hj).1, by obtain ⟨v, a, b⟩ := (unhide Hen2 j i hj).2; exact ⟨v, a, b.chg hcg4 (by simp)⟩⟩, by simp; omega, by simp; omega, by simp; omega, Nat.le_refl _⟩
        have hb4 : Below w.heap.size w w3 := hb3.trans (hcg4.below hb3.size)
        obtain ⟨na, nl, nc, rfl⟩ := hm4.form
        clear hm3 hm4 hcv hcg3 hcg4
        go_wp2
        go_roundw
        case rel => exact ⟨p + 1, by omega, by go_num, ⟨md, ms, _, _, _, rfl, rfl, R1⟩, hb4⟩
        case measure => simp [intOf]; omega
      · obtain ⟨qa, ql, qc, rfl⟩ := hS.q.form
        have hq1 := hS.q.len
        have hm1 : ml = mq.length := by have := hS.m.len; simpa [ints] using this
        obtain ⟨wx, hwx⟩ : ∃ wx, wx = wr.alloc (.cells #[.int .u8 (P p : Nat), .int .u8 (A p : Nat)] 107) := ⟨_, rfl⟩
        have hq2 : ql = mq.length := by omega
        rw [← hwx] at hS1 hb1
        have d2 : wx.cell? ⟨w.heap.size, 2, none⟩ = some (.slice qa ql qc) := by rw [cell_of_heap hS1.box]; rfl
        have d3 : wx.cell? ⟨w.heap.size, 3, none⟩ = some (.int .i64 (md : Nat)) := by rw [cell_of_heap hS1.box]; rfl
        have d4 : wx.cell? ⟨w.heap.size, 4, none⟩ = some (.int .i64 (ms : Nat)) := by rw [cell_of_heap hS1.box]; rfl
        have z4 : wx.frozen? ⟨w.heap.size, 4, none⟩ = false := free_of_heap hS1.box
        have Hwx := hide hwx
        clear hS hwx hbw
        go_wp2_with fail
        rw [← unhide Hwx]
        have W1 : IntKind.i64.wrap ((md : Int) + (ql : Int)) = ((md + mq.length : Nat) : Int) := by rw [IntKind.wrap_i64]; omega
        clear Hwx c0 c1
        have Hq1 := hide hq1
        have Hq2 := hide hq2
        have Hm1 := hide hm1
        clear hq1 hq2 hm1
        go_region_held3 (fun w' => w'.cell? ⟨w.heap.size, 3, none⟩ = some (.int .i64 (md : Nat)) ∧ w'.cell? ⟨w.heap.size, 2, none⟩ = some (.slice qa ql qc))
          (first | exact ⟨d3, d2⟩ | exact two_set (by assumption) (by simp) (by simp))
          (fail)
        have hO2 : ((wx.setCell ⟨w.heap.size, 4, none⟩ (.int .i64 ((md : Int) + (mq.length : Int)))).drew).heap[w.heap.size]? = some (.cells (oC (.slice qa ql qc) md ((md + mq.length : Nat) : Int)) 100) := heap_setCell_same hS1.box _
        have hcg2 : Chg w.heap.size [100] wx ((wx.setCell ⟨w.heap.size, 4, none⟩ (.int .i64 ((md : Int) + (mq.length : Int)))).drew) := ((Chg.refl _ _ wx).setCell (p := ⟨w.heap.size, 4, none⟩) (Nat.le_refl _) hS1.box (by simp) _).drew
        have R1 : Scr ((wx.setCell ⟨w.heap.size, 4, none⟩ (.int .i64 ((md : Int) + (mq.length : Int)))).drew) w.heap.size w.heap.size (p + 1) md (md + mq.length) mq (.slice qa ql qc) (.slice ma ml mc) qs :=
          ⟨hO2, hS1.q.chg hcg2 (by simp), hS1.m.chg hcg2 (by simp), hql, fun j i hj => ⟨(hS1.enc j i hj).1, by obtain ⟨v, a, b⟩ := (hS1.enc j i hj).2; exact ⟨v, a, b.chg hcg2 (by simp)⟩⟩, Nat.le_refl _, by omega, by omega, Nat.le_refl _⟩
        have hb3 : Below w.heap.size w ((wx.setCell ⟨w.heap.size, 4, none⟩ (.int .i64 ((md : Int) + (mq.length : Int)))).drew) := hb1.trans (hcg2.below hb1.size)
        have W2 : IntKind.i64.wrap ((md : Int) + (ml : Int)) = ((md + mq.length : Nat) : Int) := by have := unhide Hm1; rw [IntKind.wrap_i64]; omega
        have hml : ml ≤ 2000 := by have := unhide Hm1; omega
        clear hO2 hcg2 hS1 hb1 d2 d3 d4
        go_wp2
        go_roundw
        case rel => exact ⟨p + 1, by omega, by go_num, ⟨md, md + mq.length, mq, _, _, rfl, rfl, R1⟩, hb3⟩
        case measure => simp [intOf]; omega
      · have hA0 : (A p : Int) % 40 = ((A p % 40 : Nat) : Int) := by omega
        clear hS hbw
        have HA0 := hide hA0
        clear hA0
        go_wp2_with fail
        clear c0 c1
        rw [unhide HA0]
        obtain ⟨nn, hnn⟩ : ∃ nn, Hid (nn = A p % 40) := ⟨_, hide rfl⟩
        rw [← unhide hnn]
        have hnn2 : nn < 40 := by have := unhide hnn; omega
        have hm1 : ml = mq.length := by have := hS1.m.len; simpa [ints] using this
        have Hm1 := hide hm1
        clear hm1
        obtain ⟨wx, hwx⟩ : ∃ wx, wx = wr.alloc (.cells #[.int .u8 (P p : Nat), .int .u8 (A p : Nat)] 107) := ⟨_, rfl⟩
        rw [← hwx] at hS1 hb1
        rw [← hwx]
        clear hwx
        have hmn : ∃ x : Nat, Hid ((if (ms : Int) < (nn : Int) then (ms : Int) else (nn : Int)) = (x : Int)) ∧ x ≤ ms ∧ x ≤ nn := by
          by_cases h : (ms : Int) < (nn : Int)
          · exact ⟨ms, hide (by rw [if_pos h]), Nat.le_refl _, by omega⟩
          · exact ⟨nn, hide (by rw [if_neg h]), by omega, Nat.le_refl _⟩
        obtain ⟨x, Hx, hx1, hx2⟩ := hmn
        have hy : IntKind.i64.wrap ((if (ms : Int) < (nn : Int) then (ms : Int) else (nn : Int)) - (md : Int)) = (x : Int) - (md : Int) := by rw [unhide Hx, IntKind.wrap_i64]; omega
        by_cases hk : x ≤ md
        · refine (drop_none w.heap.size qv md ms nn ((x : Int) - md) wx hS1.box hy (by omega)).mono ?_
          rintro e w2 ⟨rfl, hk2⟩
          have R1 := (hS1.chg (Chg.of_kept (B := 0) (ts := []) hk2) (by simp) (by simp) (by simp) (by simp)).more (Nat.le_succ p)
          have hb3 : Below w.heap.size w w2 := hb1.trans (hk2.below hb1.size (by simp))
          have hk3 : ¬ (0 : Int) < (x : Int) - (md : Int) := by omega
          have hx3 := unhide Hx
          clear hS1 hb1 hy hk2
          go_wp2
          go_roundw
          case rel => exact ⟨p + 1, by omega, by go_num, ⟨md, ms, mq, _, _, rfl, rfl, R1⟩, hb3⟩
          case measure => simp [intOf]; omega
        · obtain ⟨k, hkk⟩ : ∃ k, k = x - md := ⟨_, rfl⟩
          have hk4 : (x : Int) - (md : Int) = (k : Int) := by omega
          rw [hk4] at hy
          have hkl : k ≤ mq.length := by omega
          have hk0 : 0 < k := by omega
          refine (drop_some w.heap.size w.heap.size qv qs md ms nn k wx hS1.box hS1.q (Nat.le_refl _) hy hk0 (by omega) (by omega) (by omega) (by omega)).mono ?_
          rintro e w2 ⟨rfl, qv', hO2, hq2, hcg2⟩
          have hm2 : Sl w.heap.size 3 w2 (.slice ma ml mc) (ints mq) := hS1.m.chg hcg2 (by simp)
          have hil : (ints mq).length = mq.length := by simp [ints]
          obtain ⟨M, mo, rfl⟩ := hm2.some (by have := unhide Hm1; omega)
          obtain ⟨i0, hi, hz0, hz1, hz2⟩ := info_parts info3
          obtain ⟨o', ho'⟩ : ∃ o', Hid (o' = if mc = k then mo else mo + k) := ⟨_, hide rfl⟩
          have slw : ∀ w, (Instr.slice 24 (.slice (some ⟨M, mo, none⟩) ml mc) (some (.int .i64 ((x : Int) - (md : Int)))) none none).run Yba.prog w = .ok (.slice (some ⟨M, o', none⟩) (ml - k) (mc - k)) w := fun w => by rw [unhide ho']; exact slice_low (P := Yba.prog) w Yba.underlying24 hi hz1 M mo ml mc k _ hk4 (by have := unhide Hm1; omega)
          have hm3 : Sl w.heap.size 3 w2 (.slice (some ⟨M, o', none⟩) (ml - k) (mc - k)) (ints (mq.drop k)) := by
            have e1 : ml = (ints mq).length := by rw [hil]; exact unhide Hm1
            rw [e1] at hm2 ⊢
            have := hm2.drop (k := k) (by omega) (unhide ho')
            simpa [ints] using this
          have R1 : Scr w2 w.heap.size w.heap.size (p + 1) (md + k) ms (mq.drop k) qv' (.slice (some ⟨M, o', none⟩) (ml - k) (mc - k)) (qs.drop k) :=
            ⟨hO2, hq2, hm3, by simp; omega, fun j i hj => by
              rw [List.getElem?_drop] at hj
              obtain ⟨a, v, b, cc⟩ := hS1.enc (k + j) i hj
              exact ⟨a, v, by rw [List.getElem?_drop]; exact b, cc.chg hcg2 (by simp)⟩, by simp; omega, by simp; omega, by simp; omega, Nat.le_refl _⟩
          have hb3 : Below w.heap.size w w2 := hb1.trans (hcg2.below hb1.size)
          have hk3 : (0 : Int) < (x : Int) - (md : Int) := by omega
          have hcase : ((ms : Int) < (nn : Int) ∧ x = ms) ∨ (¬ (ms : Int) < (nn : Int) ∧ x = nn) := by
            have e := unhide Hx
            by_cases h : (ms : Int) < (nn : Int)
            · rw [if_pos h] at e; exact Or.inl ⟨h, by omega⟩
            · rw [if_neg h] at e; exact Or.inr ⟨h, by omega⟩
          have hk5 : (md : Int) + ((x : Int) - (md : Int)) = ((md + k : Nat) : Int) := by omega
          have Hk5 := hide hk5
          clear hS1 hb1 hy hcg2 hO2 hq2 hm2 hm3 hk5 hk4 hkk Hx
          rcases hcase with ⟨hc, rfl⟩ | ⟨hc, rfl⟩
          all_goals
            go_wp2
            go_roundw
            case rel => exact ⟨p + 1, by omega, by go_num, ⟨md + k, _, mq.drop k, _, _, by first | rfl | (rw [unhide Hk5]) | (congr 1; exact unhide Hk5), rfl, R1⟩, hb3⟩
            case measure => simp [intOf]; omega
      · have hA0 : (A p : Int) % 40 = ((A p % 40 : Nat) : Int) := by omega
        clear hS hbw
        have HA0 := hide hA0
        clear hA0
        go_wp2_with fail
        clear c0 c1
        rw [unhide HA0]
        refine (startAfter_any w.heap.size w.heap.size qv md ms ((A p % 40 : Nat) : Int) _ hS1.box (Nat.le_refl _)).mono ?_
        rintro e w2 ⟨rfl, hO2, hcg2⟩
        have R1 : Scr w2 w.heap.size w.heap.size (p + 1) (A p % 40) (A p % 40) mq qv (.slice ma ml mc) qs :=
          ⟨hO2, hS1.q.chg hcg2 (by simp), hS1.m.chg hcg2 (by simp), hql, fun j i hj => ⟨(hS1.enc j i hj).1, by obtain ⟨v, a, b⟩ := (hS1.enc j i hj).2; exact ⟨v, a, b.chg hcg2 (by simp)⟩⟩, by omega, by omega, by omega, Nat.le_refl _⟩
        have hb3 : Below w.heap.size w w2 := hb1.trans (hcg2.below hb1.size)
        clear hS1 hb1 hcg2 hO2
        go_wp2
        go_roundw
        case rel => exact ⟨p + 1, by omega, by go_num, ⟨_, _, mq, _, _, rfl, rfl, R1⟩, hb3⟩
        case measure => simp [intOf]; omega
    · obtain rfl : p = n := by omega
      obtain ⟨ma, ml, mc, rfl⟩ := hS.m.form
      have hml : ml = mq.length := by have := hS.m.len; simpa [ints] using this
      have hone : ∀ u ∈ qs, u.oneCell' = true := by
        intro u hu
        obtain ⟨j, hj, rfl⟩ := List.getElem_of_mem hu
        obtain ⟨_, v, e1, g, e2, _⟩ := hS.enc j mq[j] (List.getElem?_eq_getElem (by omega))
        have : qs[j] = v := by rw [List.getElem?_eq_getElem hj] at e1; exact Option.some.inj e1
        rw [this, e2]
        rfl
      have hqc := hS.q
      clear h0 h1 hP
      rcases hqc with ⟨rfl, rfl⟩ | ⟨S, so, cap, cur, rfl, q2, q3, q4, q5, q6⟩
      · have hm0 : mq.length = 0 := by simpa using hql.symm
        obtain rfl : ml = 0 := by omega
        have hbx := hS.box
        clear hS hone hml hm0 hql hsm hsh hst
        go_wp2_with fail
        refine (kept_nil w.heap.size 0 0 md ms wr hbx).mono ?_
        rintro e w2 ⟨rfl, hk2⟩
        have hb2 : Below w.heap.size w w2 := hbw.trans (hk2.below hbw.size (by simp))
        clear hbx hk2
        go_wp2
        refine wp_loop_rounds 1 ?_
        rw [rounds_succ]
        go_wp2
        go_ret
        exact ⟨rfl, hb2⟩
      · have hSO : ¬ S = w.heap.size := by
          intro e; subst e; have := hS.box; rw [this] at q3; injection q3 with q3; injection q3 with _ q3; cases q3
        have hbx := hS.box
        go_wp2_with fail
        refine (kept_some w.heap.size ⟨S, so, none⟩ qs.length cap md ms qs wr hbx (by omega) rfl (fun j u hj => by rw [addr_add, cell_of_heap q3]; exact q6 j u hj) hone (by simpa using hSO)).mono ?_
        rintro e w2 ⟨g, cap', rfl, hg, hrow, hk2⟩
        have hb2 : Below w.heap.size w w2 := hbw.trans (hk2.below hbw.size (by simp))
        have hS2 := hS.chg (Chg.of_kept (B := 0) (ts := []) hk2) (by simp) (by simp) (by simp) (by simp)
        have HS2 := hide hS2
        have Hrow := hide hrow
        have hqm : (qs.length : Int) = (ml : Int) := by omega
        have Hml := hide hml
        clear hS hbx hone q3 q6 hk2 hg hrow hS2 hql hml
        go_wp2
        go_loopw [104] (fun i wr => ∃ j : Nat, j ≤ ml ∧ i = .int .i64 j ∧ Kept [] w2 wr) (fun i _ => ml - (intOf i).toNat)
        case atStart => exact ⟨0, Nat.zero_le _, rfl, Kept.refl _ _⟩
        case round =>
          obtain ⟨j, hj, rfl, hkj⟩ := hrel
          have hbo : Below w.heap.size w wr := hb2.trans (hkj.below hb2.size (by simp))
          obtain ⟨wo, rfl⟩ : ∃ wo : World, wo = wr := ⟨_, rfl⟩
          by_cases hjl : j < ml
          · have hjm : j < mq.length := by have := unhide Hml; omega
            obtain ⟨i, hi⟩ : ∃ i, mq[j]? = some i := ⟨_, List.getElem?_eq_getElem hjm⟩
            obtain ⟨hi2, v, hv, hE⟩ := (unhide HS2).enc j i hi
            have c1 := hkj.cellSome ((unhide Hrow).cell j v hv) (by simp)
            obtain ⟨M, mo, rfl⟩ := (unhide HS2).m.some (by omega)
            have c2 := hkj.cellSome ((unhide HS2).m.cell (j := j) (u := .int .i64 (i : Nat)) (by simp [ints, hi])) (by simp)
            have cv : ∀ w', Kept [] wo w' → (convert 84 9 v).run Yba.prog w' = .ok (.string (strOfNums [(i : Int) % 256, (i : Int) / 256])) w' := fun w' hk' => conv_enc (hE.chg (Chg.of_kept (B := 0) (ts := []) (hkj.trans hk')) (by simp))
            obtain ⟨ge, rfl, _, _⟩ := hE
            have b1 : (0 : Int) ≤ (j : Int) := by omega
            have b2 : (j : Int) < (ml : Int) := by omega
            have b3 : (j : Int) < (qs.length : Int) := by omega
            clear hv hi
            go_wp2
            go_region_held3 (fun w' => w'.cell? ⟨g, j, none⟩ = some (.slice (some ⟨ge, 0, none⟩) 2 2) ∧ w'.cell? ⟨M, mo + j, none⟩ = some (.int .i64 (i : Nat)) ∧ Kept [] wo w')
              (first | exact ⟨c1, c2, (Kept.refl _ _).drew⟩ | exact s2_kept (by assumption) (by assumption) | exact s2_drew (by assumption))
              ((first
                | (go_at_call 18; refine (enc_any i _ hi2).mono ?_; rintro e w1 ⟨v2, rfl, hE2, hk1⟩)
                | (go_at_call 16; refine (equal_kept _ _ _ _ (cv _ (And.right (And.right (by assumption)))) (conv_enc hE2)).mono ?_; rintro e w3 ⟨rfl, hk3⟩)))
            have hk4 : Kept [] w2 w3 := hkj.trans ((((Kept.refl [] wo).drew).trans hk1).trans hk3)
            clear cv c1 c2
            go_wp2
            go_roundw
            case rel => exact ⟨j + 1, by omega, by go_num, hk4⟩
            case measure => simp [intOf]; omega
          · obtain rfl : j = ml := by omega
            go_wp2
            go_ret
            exact ⟨rfl, hbo⟩
end Go.Proofs.Ybulkcoda
