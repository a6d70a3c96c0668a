import Derived.Test.YbulkcodaS2
namespace Go.Proofs.Ybulkcoda
open Go.RowKit

/-- Two floats that the law holds to be the same: the same number, or both NaN. -/
def Same (a b : Nat) : Prop := (a = b ∧ ¬ NaN64 a) ∨ (NaN64 a ∧ NaN64 b)
theorem Same.refl (a : Nat) : Same a a := by
  by_cases h : NaN64 a
  · exact Or.inr ⟨h, h⟩
  · exact Or.inl ⟨rfl, h⟩
theorem Same.of_res {o : Option Nat} {a b : Nat} (h : Res o a) (k : Res o b) : Same a b := by
  cases o with
  | none => exact Or.inr ⟨h, k⟩
  | some v =>
    obtain rfl : a = v := h
    obtain rfl : b = a := k
    exact Same.refl _

set_option maxRecDepth 100000 in
set_option maxHeartbeats 400000 in
theorem same_any (a b : Nat) (w : World) (h : Same a b) : Calls Yba.prog 12 #[.float .f64 a, .float .f64 b] w fun e w' => e = .returned (.bool true) ∧ w' = w := by
  rcases h with ⟨rfl, h⟩ | ⟨h, k⟩
  · have h1 := order_self h
    clear h
    go_enter Yba.func12, Yba.ntmps12
    go_wp2
    go_ret
    exact ⟨rfl, rfl⟩
  · have h1 := nan_order_left h a
    have h2 := nan_order_left h b
    have h3 := nan_order_left k b
    clear h k
    go_enter Yba.func12, Yba.ntmps12
    go_wp2
    go_ret
    exact ⟨rfl, rfl⟩

/-- workload.BeforeHorizon. -/
def before (u : Nat) : Bool := (FloatKind.f64.format.order u 0 == some .gt || FloatKind.f64.format.order u 0 == some .eq) && FloatKind.f64.format.order u 4764808405757984768 == some .lt
theorem before_cases (u : Nat) : (before u = true ∧ (FloatKind.f64.format.order u 0 = some .gt ∨ FloatKind.f64.format.order u 0 = some .eq) ∧ FloatKind.f64.format.order u 4764808405757984768 = some .lt) ∨
    (before u = false ∧ ((((FloatKind.f64.format.order u 0 == some .gt) = false) ∧ ((FloatKind.f64.format.order u 0 == some .eq) = false)) ∨ ((FloatKind.f64.format.order u 0 = some .gt ∨ FloatKind.f64.format.order u 0 = some .eq) ∧ ((FloatKind.f64.format.order u 4764808405757984768 == some .lt) = false)))) := by
  unfold before
  cases h1 : (FloatKind.f64.format.order u 0 == some .gt) <;> cases h2 : (FloatKind.f64.format.order u 0 == some .eq) <;> cases h3 : (FloatKind.f64.format.order u 4764808405757984768 == some .lt) <;> simp_all

set_option maxRecDepth 100000 in
set_option maxHeartbeats 400000 in
theorem before_any (u : Nat) (w : World) : Calls Yba.prog 30 #[.float .f64 u] w fun e w' => e = .returned (.bool (before u)) ∧ w' = w := by
  rcases before_cases u with ⟨h0, h | h, h2⟩ | ⟨h0, ⟨h1, h2⟩ | ⟨h | h, h2⟩⟩
  all_goals
    rw [h0]
    clear h0
    go_enter Yba.func30, Yba.ntmps30
    go_wp2
    go_ret
    exact ⟨rfl, rfl⟩
end Go.Proofs.Ybulkcoda
