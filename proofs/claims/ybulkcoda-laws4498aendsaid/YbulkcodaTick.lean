import Derived.Test.YbulkcodaDyadic
namespace Go.Proofs.Ybulkcoda

/-- n / 256 and a / 16. -/
def d256 (n : Nat) : Nat := F64.nearest false n (-8)
def fr (a : Nat) : Nat := F64.nearest false a (-4)

theorem log_small {n : Nat} (h : n < 2 ^ 52) : n.log2 ≤ 52 := by
  by_cases h0 : n = 0
  · subst h0; simp
  · exact Nat.le_of_lt ((Nat.log2_lt h0).2 h)

theorem read_d (n : Nat) (h : n < 2 ^ 52) : ∃ k : Nat, F64.read (d256 n) = .number false (n * 2 ^ k) (-8 - (k : Int)) := by
  by_cases h0 : n = 0
  · subst h0
    have key : ∀ K : Nat, (K : Int) = 1066 → F64.read (d256 0) = .number false (0 * 2 ^ K) (-8 - (K : Int)) := fun K hK => by rw [Nat.zero_mul, hK]; decide +kernel
    obtain ⟨K, hK⟩ : ∃ K : Nat, (K : Int) = 1066 := ⟨1066, rfl⟩
    exact ⟨K, key K hK⟩
  · have hl := log_small h
    refine ⟨52 - n.log2, ?_⟩
    unfold d256
    rw [read_nearest n n.log2 (-8) rfl h0 hl (by omega) (by omega)]
    have : (-8 : Int) + (n.log2 : Int) - 52 = -8 - ((52 - n.log2 : Nat) : Int) := by omega
    rw [this]

theorem shift_to (n k M : Nat) (h : k ≤ M) : (n * 2 ^ k) <<< ((-8 - (k : Int)) - (-8 - (M : Int))).toNat = n * 2 ^ M := by
  have : ((-8 - (k : Int)) - (-8 - (M : Int))).toNat = M - k := by omega
  rw [this, Nat.shiftLeft_eq, Nat.mul_assoc, ← Nat.pow_add, show k + (M - k) = M by omega]

theorem base_eq (k m : Nat) : min (-8 - (k : Int)) (-8 - (m : Int)) = -8 - ((max k m : Nat) : Int) := by omega

theorem nearest_d (n k : Nat) (h : n < 2 ^ 52) : F64.nearest false (n * 2 ^ k) (-8 - (k : Int)) = d256 n := by
  by_cases h0 : n = 0
  · subst h0; rw [Nat.zero_mul]; unfold d256 Ieee.Format.nearest; rw [if_pos rfl, if_pos rfl]
  · exact nearest_shift n n.log2 k (-8) rfl h0 (log_small h) (by omega) (by omega)

theorem sum_d (x y k m : Nat) : Ieee.Datum.sum (.number false (x * 2 ^ k) (-8 - (k : Int))) (.number false (y * 2 ^ m) (-8 - (m : Int))) = some (.number false ((x + y) * 2 ^ max k m) (-8 - ((max k m : Nat) : Int))) := by
  have e : ((x * 2 ^ max k m : Nat) : Int) + ((y * 2 ^ max k m : Nat) : Int) = (((x + y) * 2 ^ max k m : Nat) : Int) := by rw [Nat.add_mul]; omega
  simp only [Ieee.Datum.sum, Ieee.signed, base_eq, shift_to x k (max k m) (Nat.le_max_left _ _), shift_to y m (max k m) (Nat.le_max_right _ _), Bool.false_eq_true, if_false, e]
  generalize (x + y) * 2 ^ max k m = z
  congr 1
  congr 1
  by_cases h : (z : Int) = 0
  · simp [h]
  · rw [if_neg h]; simp

theorem add_d (x y : Nat) (h : x + y < 2 ^ 52) : F64.add (d256 x) (d256 y) = some (d256 (x + y)) := by
  obtain ⟨k, hk⟩ := read_d x (by omega)
  obtain ⟨m, hm⟩ := read_d y (by omega)
  unfold Ieee.Format.add
  rw [hk, hm, sum_d, Option.map_some]
  show some (F64.nearest false _ _) = _
  rw [nearest_d _ _ h]

theorem order_d (x y : Nat) (hx : x < 2 ^ 52) (hy : y < 2 ^ 52) : F64.order (d256 x) (d256 y) = some (compare x y) := by
  obtain ⟨k, hk⟩ := read_d x hx
  obtain ⟨m, hm⟩ := read_d y hy
  unfold Ieee.Format.order
  rw [hk, hm]
  simp only [Ieee.Datum.order, Ieee.signed, base_eq, shift_to x k (max k m) (Nat.le_max_left _ _), shift_to y m (max k m) (Nat.le_max_right _ _), Bool.false_eq_true, if_false]
  have hp : 0 < 2 ^ max k m := Nat.two_pow_pos _
  generalize 2 ^ max k m = z at *
  congr 1
  rcases Nat.lt_trichotomy x y with h | h | h
  · rw [Nat.compare_eq_lt.2 h]
    have : x * z < y * z := Nat.mul_lt_mul_of_pos_right h hp
    exact Int.compare_eq_lt.2 (by omega)
  · subst h; simp
  · rw [Nat.compare_eq_gt.2 h]
    have : y * z < x * z := Nat.mul_lt_mul_of_pos_right h hp
    exact Int.compare_eq_gt.2 (by omega)

theorem one_d : (4607182418800017408 : Nat) = d256 256 := by decide +kernel
theorem sat_d (x : Nat) (hx : x < 2 ^ 52) : sat (some (d256 x)) = decide (256 ≤ x) := by
  unfold sat ge1
  rw [one_d]
  have h := order_d x 256 hx (by omega)
  show (F64.order (d256 x) (d256 256) == some .gt || F64.order (d256 x) (d256 256) == some .eq) = _
  rw [h]
  rcases Nat.lt_trichotomy x 256 with h | h | h
  · rw [Nat.compare_eq_lt.2 h]; simp; omega
  · subst h; simp
  · rw [Nat.compare_eq_gt.2 h]; simp; omega

theorem div_fr : ∀ a : Fin 16, F64.div (floatOfInt .f64 ((a.val : Nat) : Int)) 4625196817309499392 = some (fr a.val) := by decide +kernel
theorem mul_fr : ∀ a b : Fin 16, F64.mul (fr a.val) (fr b.val) = some (d256 (a.val * b.val)) := by decide +kernel

/-- The sum of the products of the first k pairs. -/
def isum (A B : Nat → Nat) : Nat → Nat
  | 0 => 0
  | k + 1 => isum A B k + A k * B k
theorem isum_le (A B : Nat → Nat) (n : Nat) (hA : ∀ j, j < n → A j < 16) (hB : ∀ j, j < n → B j < 16) : isum A B n ≤ 225 * n := by
  induction n with
  | zero => simp [isum]
  | succ n ih =>
    have h1 := ih (fun j hj => hA j (by omega)) (fun j hj => hB j (by omega))
    have h2 : A n * B n ≤ 15 * 15 := Nat.mul_le_mul (by have := hA n (by omega); omega) (by have := hB n (by omega); omega)
    simp only [isum]
    omega
theorem sumF_d (A B : Nat → Nat) (n : Nat) (hn : n ≤ 1024) (hA : ∀ j, j < n → A j < 16) (hB : ∀ j, j < n → B j < 16) :
    sumF (fun j => fr (A j)) (fun j => fr (B j)) n = some (d256 (isum A B n)) := by
  induction n with
  | zero => show some 0 = some (d256 0); rfl
  | succ n ih =>
    have h1 := ih (by omega) (fun j hj => hA j (by omega)) (fun j hj => hB j (by omega))
    have h2 := isum_le A B (n + 1) hA hB
    have h3 := mul_fr ⟨A n, hA n (by omega)⟩ ⟨B n, hB n (by omega)⟩
    show stepF (sumF _ _ n) (fr (A n)) (fr (B n)) = _
    rw [h1]
    unfold stepF
    rw [show FloatKind.f64.format.mul (fr (A n)) (fr (B n)) = some (d256 (A n * B n)) from h3]
    exact add_d _ _ (by simp only [isum] at h2; omega)

theorem read256 : F64.read 4643211215818981376 = .number false (2 ^ 52) (-44) := by decide +kernel
/-- 'float64(S) / 256'. -/
theorem div_d (S : Nat) (h0 : S ≠ 0) (h : S < 2 ^ 52) : F64.div (floatOfInt .f64 (S : Int)) 4643211215818981376 = some (d256 S) := by
  have hl := log_small h
  have e : floatOfInt .f64 (S : Int) = F64.nearest false S 0 := by
    show F64.nearest (decide ((S : Int) < 0)) (S : Int).natAbs 0 = _
    rw [decide_eq_false (by omega), Int.natAbs_natCast]
  unfold Ieee.Format.div
  rw [e, read_nearest S S.log2 0 rfl h0 hl (by omega) (by omega), read256]
  have hm : (S * 2 ^ (52 - S.log2)).log2 = 52 := by rw [log2_mul_pow h0]; omega
  have h52 : ((2 : Nat) ^ 52).log2 = 52 := by decide +kernel
  have e2 : (0 : Int) + (S.log2 : Int) - 52 - -44 - ((52 + 2 + 52 - 52 : Nat) : Int) - 1 = -8 - ((55 - S.log2 : Nat) : Int) := by omega
  have hd : (S * 2 ^ (52 - S.log2)) <<< (52 + 2 + 52 - 52) = (S * 2 ^ (52 - S.log2) * 4) * 2 ^ 52 := by
    rw [Nat.shiftLeft_eq, Nat.mul_assoc, Nat.mul_assoc, Nat.mul_assoc]
  have hpw : 2 * (S * 2 ^ (52 - S.log2) * 4) = S * 2 ^ (55 - S.log2) := by
    rw [show 55 - S.log2 = (52 - S.log2) + 3 by omega, Nat.pow_add]
    rw [Nat.mul_comm 2, Nat.mul_assoc, Nat.mul_assoc]
  simp only [Ieee.Datum.quotient, f_bits, hm, h52, e2, hd, Nat.mul_div_cancel _ (Nat.two_pow_pos 52), Nat.mul_mod_left]
  rw [if_neg (by decide +kernel)]
  simp only [Option.map_some, Ieee.Format.write, hpw, bne_self_eq_false, Bool.toNat_false, Nat.add_zero]
  rw [nearest_d _ _ h]
end Go.Proofs.Ybulkcoda
