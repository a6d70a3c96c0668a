import Derived.Test.YbulkcobyFmtW15
import Derived.Test.YbulkcobyFmtW18
namespace Go.Proofs.YbulkcobyFmt
open Go.RowKit Go.Extern.Stop Go.Stop Go.Extern

set_option maxRecDepth 100000 in
set_option maxHeartbeats 400000 in
theorem apply_big (va : Option Addr) (m vc l : Nat) (a pos : Int) (h : Bool) (w : World) (hm : 1024 < m) :
    Calls Ybaf.prog 5 #[.slice va m vc, .int .u8 a, .bool h, .float .f64 l, .int .i64 pos] w fun e w' => e = .returned (.bool true) ∧ Below w.heap.size w w' := by
  have hd : decide ((1024 : Int) < (m : Int)) = true := by simp; omega
  go_enter Ybaf.func5, Ybaf.ntmps5
  go_wp2
  go_ret
  exact ⟨rfl, (Below.refl _ _).alloc (Nat.le_refl _) _⟩

theorem apply_any (va : Option Addr) (m vc l : Nat) (a pos : Int) (h : Bool) (vs : List Nat) (w : World) (hkc : m ≤ vc) (hv : Floats w va m vs) (ha0 : 0 ≤ a) (ha1 : a ≤ 255) :
    Calls Ybaf.prog 5 #[.slice va m vc, .int .u8 a, .bool h, .float .f64 l, .int .i64 pos] w fun e w' => e = .returned (.bool true) ∧ Below w.heap.size w w' := by
  by_cases hm : 1024 < m
  · exact apply_big va m vc l a pos h w hm
  have hm' : m ≤ 1024 := by omega
  cases h with
  | false =>
    have hn : a % 6 = (((a % 6).toNat : Nat) : Int) := by omega
    by_cases h1 : (m : Int) < a % 6
    · exact apply_f1 va m vc l a pos vs w hm' hkc hv ha0 ha1 h1
    by_cases h2 : (a % 6).toNat ≤ 0
    · exact apply_f2 va m vc l a pos vs w hm' hkc hv ha0 ha1 (a % 6).toNat hn h2 (by omega) (by omega)
    · exact apply_f3 va m vc l a pos vs w hm' hkc hv ha0 ha1 (a % 6).toNat hn (by omega) (by omega) (by omega)
  | true =>
    by_cases hm0 : m ≤ 0
    · cases hz : (a % 6 == 0) with
      | true => exact apply_t1z va m vc l a pos vs w hm' hkc hv ha0 ha1 hz hm0
      | false => exact apply_t1p va m vc l a pos vs w hm' hkc hv ha0 ha1 hz hm0
    have hM : m = (m - 1) + 1 := by omega
    cases hg : geB (vs.getD (m - 1) 0) l with
    | false =>
      cases hz : (a % 6 == 0) with
      | true => exact apply_t2z va m vc l a pos vs w hm' hkc hv ha0 ha1 hz (m - 1) hM _ rfl hg
      | false => exact apply_t2p va m vc l a pos vs w hm' hkc hv ha0 ha1 hz (m - 1) hM _ rfl hg
    | true =>
      have ho : FloatKind.f64.format.order (vs.getD (m - 1) 0) l = some .gt ∨ FloatKind.f64.format.order (vs.getD (m - 1) 0) l = some .eq := by
        unfold geB at hg
        rw [Bool.or_eq_true] at hg
        rcases hg with h | h
        · exact Or.inl (by simpa using h)
        · exact Or.inr (by simpa using h)
      cases hz : (a % 6 == 0) with
      | true =>
        rcases ho with ho | ho
        · exact apply_t4zg va m vc l a pos vs w hm' hkc hv ha0 ha1 hz (m - 1) hM _ rfl ho hg
        · exact apply_t4ze va m vc l a pos vs w hm' hkc hv ha0 ha1 hz (m - 1) hM _ rfl ho hg
      | false =>
        have hz' : ¬ a % 6 = 0 := by simpa using hz
        by_cases h1 : ((m - 1 : Nat) : Int) < a % 6 - 1
        · rcases ho with ho | ho
          · exact apply_t3pg va m vc l a pos vs w hm' hkc hv ha0 ha1 hz (m - 1) hM _ rfl ho hg h1 (by omega)
          · exact apply_t3pe va m vc l a pos vs w hm' hkc hv ha0 ha1 hz (m - 1) hM _ rfl ho hg h1 (by omega)
        · have hn : a % 6 - 1 = (((a % 6 - 1).toNat : Nat) : Int) := by omega
          rcases ho with ho | ho
          · exact apply_t4pg va m vc l a pos vs w hm' hkc hv ha0 ha1 hz (m - 1) hM _ rfl ho hg (a % 6 - 1).toNat hn (by omega) (by omega) (by omega)
          · exact apply_t4pe va m vc l a pos vs w hm' hkc hv ha0 ha1 hz (m - 1) hM _ rfl ho hg (a % 6 - 1).toNat hn (by omega) (by omega) (by omega)
end Go.Proofs.YbulkcobyFmt
