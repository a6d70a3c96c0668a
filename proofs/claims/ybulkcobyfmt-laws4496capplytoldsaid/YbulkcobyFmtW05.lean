import Derived.Test.YbulkcobyFmtW04
namespace Go.Proofs.YbulkcobyFmt
open Go.RowKit Go.Extern.Stop Go.Stop Go.Extern

/-- 'x >= y' on float64. -/
def geB (x y : Nat) : Bool := FloatKind.f64.format.order x y == some .gt || FloatKind.f64.format.order x y == some .eq
theorem run_geq (w : World) (x y : Nat) : (binOp .geq 25 (.float .f64 x) (.float .f64 y)).run Ybaf.prog w = .ok (.bool (geB x y)) w := rfl
theorem ta26 (w : World) (v : Value) : (Instr.typeAssert (.iface 26 v) 41 26 true).run Ybaf.prog w = .ok (.tuple #[v, .bool true]) w := by kernel_rfl

theorem clo11 (L lo v : Nat) (w : World) (hL : w.cell? ⟨L, 0, none⟩ = some (.float .f64 lo)) :
    Calls Ybaf.prog 11 #[.float .f64 v, .pointer (some ⟨L, 0, none⟩)] w fun e w' => e = .returned (.bool (geB v lo)) ∧ w' = w := by
  have hg := run_geq
  go_enter Ybaf.func11, Ybaf.ntmps11
  go_wp2
  go_ret
  exact ⟨rfl, rfl⟩

set_option maxHeartbeats 1000000 in
theorem read_any (L lo v : Nat) (s1 s2 : ByteArray) (w : World) (hL : w.cell? ⟨L, 0, none⟩ = some (.float .f64 lo)) :
    Calls Ybaf.prog 22 #[.agg #[.string s1, .string s2, .func (Fn.func 11) #[] #[.pointer (some ⟨L, 0, none⟩)]], .iface 26 (.float .f64 v)] w fun e w' =>
      e = .returned (.tuple #[.float .f64 v, .bool (geB v lo)]) ∧ Kept [] w w' := by
  have ta := ta26
  have hL' : (w.alloc (.cells #[.string s1, .string s2, .func (Fn.func 11) #[] #[.pointer (some ⟨L, 0, none⟩)]] 59)).cell? ⟨L, 0, none⟩ = some (.float .f64 lo) := ((Kept.refl [] w).alloc _).cellSome hL (by simp)
  go_enter Ybaf.func22, Ybaf.ntmps22
  go_wp2_with (go_at_call 11; refine (clo11 L lo v _ hL').mono ?_; rintro e w' ⟨rfl, rfl⟩)
  go_ret2
  exact ⟨rfl, (Kept.refl _ _).alloc _⟩
end Go.Proofs.YbulkcobyFmt
