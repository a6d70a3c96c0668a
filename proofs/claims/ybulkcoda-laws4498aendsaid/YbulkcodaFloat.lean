import Derived.Laws.Cover2
import Derived.Laws.FloatArith
import Derived.Deep.Quiet
namespace Go.Proofs.Ybulkcoda

/-- The bits of a NaN. -/
def NaN64 (u : Nat) : Prop := ∃ s t, FloatKind.f64.format.read u = .nan s t

theorem nan_add_left {u : Nat} (h : NaN64 u) (x : Nat) : FloatKind.f64.format.add u x = none := by
  obtain ⟨s, t, h⟩ := h
  simp [Ieee.Format.add, h, Ieee.Datum.sum]
theorem nan_add_right {u : Nat} (h : NaN64 u) (x : Nat) : FloatKind.f64.format.add x u = none := by
  obtain ⟨s, t, h⟩ := h
  cases e : FloatKind.f64.format.read x <;> simp [Ieee.Format.add, h, e, Ieee.Datum.sum]
theorem nan_order_left {u : Nat} (h : NaN64 u) (x : Nat) : FloatKind.f64.format.order u x = none := by
  obtain ⟨s, t, h⟩ := h
  simp [Ieee.Format.order, h, Ieee.Datum.order]
theorem nan_order_right {u : Nat} (h : NaN64 u) (x : Nat) : FloatKind.f64.format.order x u = none := by
  obtain ⟨s, t, h⟩ := h
  cases e : FloatKind.f64.format.read x <;> simp [Ieee.Format.order, h, e, Ieee.Datum.order]
theorem order_self {u : Nat} (h : ¬ NaN64 u) : FloatKind.f64.format.order u u = some .eq := by
  cases e : FloatKind.f64.format.read u with
  | nan s t => exact absurd ⟨s, t, e⟩ h
  | infinity s => cases s <;> simp [Ieee.Format.order, e, Ieee.Datum.order]
  | number s m i => simp [Ieee.Format.order, e, Ieee.Datum.order]
theorem not_nan_of_order {u x : Nat} {o : Ordering} (h : FloatKind.f64.format.order u x = some o) : ¬ NaN64 u := by
  intro hn
  rw [nan_order_left hn] at h
  cases h

/-- The tape's word for an invalid operation's bits is a NaN. -/
theorem nan_of_tape (t : Nat) : NaN64 ((t % 2) * 2 ^ 63 + 0x7ff0000000000000 + 1 + (t / 2) % (2 ^ 52 - 1)) := by
  have hs : FloatKind.f64.format.signWeight = 9223372036854775808 := rfl
  have hb : FloatKind.f64.format.binade = 4503599627370496 := rfl
  have hi : FloatKind.f64.format.infRung = 9218868437227405312 := rfl
  have h1 : t % 2 = 0 ∨ t % 2 = 1 := by omega
  have e : ((t % 2) * 2 ^ 63 + 0x7ff0000000000000 + 1 + (t / 2) % (2 ^ 52 - 1)) % 9223372036854775808 = 9218868437227405312 + 1 + (t / 2) % 4503599627370495 := by
    rcases h1 with h | h <;> rw [h] <;> simp <;> omega
  have h : ∀ word, word % 9223372036854775808 = 9218868437227405312 + 1 + (t / 2) % 4503599627370495 → NaN64 word := by
    intro word hw
    refine ⟨word / FloatKind.f64.format.signWeight % 2 == 1, word % FloatKind.f64.format.signWeight - FloatKind.f64.format.infRung, ?_⟩
    unfold Ieee.Format.read
    simp only [hs, hb, hi, hw]
    rw [if_neg (by omega), if_neg (by omega), if_neg (by omega)]
  exact h _ e

/-- A result that may be a NaN: 'none' is any NaN. -/
def Res (o : Option Nat) (u : Nat) : Prop := match o with
  | some v => u = v
  | none => NaN64 u

/-- How many draws the operation makes, and what it gives. -/
def fN (op : BinOp) (x y : Nat) : Nat := match floatBits op .f64 x y with
  | some _ => 0
  | none => 1
def fV (op : BinOp) (x y : Nat) (w : World) : Nat := match floatBits op .f64 x y with
  | some r => r
  | none => (w.tape w.drawn (.nanBits .f64 x y) % 2) * 2 ^ 63 + 0x7ff0000000000000 + 1 + (w.tape w.drawn (.nanBits .f64 x y) / 2) % (2 ^ 52 - 1)
theorem fV_res (op : BinOp) (x y : Nat) (w : World) : Res (floatBits op .f64 x y) (fV op x y w) := by
  unfold fV
  cases h : floatBits op .f64 x y with
  | some r => rfl
  | none => exact nan_of_tape _
section
variable {P : Program} (w : World)
theorem run_fmul (t : TypeId) (x y : Nat) : (binOp .mul t (.float .f64 x) (.float .f64 y)).run P w = .ok (.float .f64 (fV .mul x y w)) (w.drewN (fN .mul x y)) := by
  unfold fV fN
  cases h : floatBits .mul .f64 x y with
  | some r => exact run_float_arith w .mul t .f64 x y r h
  | none =>
    have h' : FloatKind.f64.format.mul x y = none := h
    simp [binOp, Op.floatArith, h', choose, Sem.run, Question.forced, Question.cut, World.drewN]
theorem run_fadd (t : TypeId) (x y : Nat) : (binOp .add t (.float .f64 x) (.float .f64 y)).run P w = .ok (.float .f64 (fV .add x y w)) (w.drewN (fN .add x y)) := by
  unfold fV fN
  cases h : floatBits .add .f64 x y with
  | some r => exact run_float_arith w .add t .f64 x y r h
  | none =>
    have h' : FloatKind.f64.format.add x y = none := h
    simp [binOp, Op.floatArith, h', choose, Sem.run, Question.forced, Question.cut, World.drewN]
end

/-- One round of 'u += x * y'. -/
def stepF (o : Option Nat) (x y : Nat) : Option Nat := match o, FloatKind.f64.format.mul x y with
  | some u, some p => FloatKind.f64.format.add u p
  | _, _ => none
theorem step_res {o : Option Nat} {u x y p v : Nat} (hu : Res o u) (hp : Res (FloatKind.f64.format.mul x y) p) (hv : Res (FloatKind.f64.format.add u p) v) : Res (stepF o x y) v := by
  unfold stepF
  cases o with
  | none =>
    have : NaN64 u := hu
    rw [nan_add_left this] at hv
    exact hv
  | some u0 =>
    obtain rfl : u = u0 := hu
    cases h : FloatKind.f64.format.mul x y with
    | none =>
      rw [h] at hp
      have : NaN64 p := hp
      rw [nan_add_right this] at hv
      exact hv
    | some p0 =>
      rw [h] at hp
      obtain rfl : p = p0 := hp
      exact hv

/-- The sum of the products of the first k streams. -/
def sumF (R M : Nat → Nat) : Nat → Option Nat
  | 0 => some 0
  | k + 1 => stepF (sumF R M k) (R k) (M k)

/-- 'u >= 1'. -/
def ge1 (u : Nat) : Bool := FloatKind.f64.format.order u 4607182418800017408 == some .gt || FloatKind.f64.format.order u 4607182418800017408 == some .eq
/-- .. of a result that may be a NaN. -/
def sat (o : Option Nat) : Bool := match o with
  | some u => ge1 u
  | none => false
theorem ge1_res {o : Option Nat} {u : Nat} (h : Res o u) : ge1 u = sat o := by
  cases o with
  | some v => obtain rfl : u = v := h; rfl
  | none => simp [sat, ge1, nan_order_left (show NaN64 u from h)]
theorem res_of_sat {o : Option Nat} {u v : Nat} (h : Res o u) (k : Res o v) (hs : sat o = true) : u = v ∧ ¬ NaN64 u := by
  cases o with
  | none => cases hs
  | some x =>
    obtain rfl : u = x := h
    obtain rfl : v = u := k
    refine ⟨rfl, fun hn => ?_⟩
    simp [sat, ge1, nan_order_left hn] at hs
end Go.Proofs.Ybulkcoda
