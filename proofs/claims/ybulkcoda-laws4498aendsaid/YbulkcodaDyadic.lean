import Derived.Test.YbulkcodaFloat
namespace Go.Proofs.Ybulkcoda

abbrev F64 : Ieee.Format := FloatKind.f64.format
theorem f_sign : F64.signWeight = 9223372036854775808 := rfl
theorem f_binade : F64.binade = 2 ^ 52 := rfl
theorem f_inf : F64.infRung = 9218868437227405312 := rfl
theorem f_least : F64.leastPlace = -1074 := rfl
theorem f_bits : F64.fractionBits = 52 := rfl

theorem word_false (r : Nat) : F64.word false r = r := rfl
theorem rung_le {a m : Nat} (h : a ≤ 1974) (hm : m < 2 ^ 53) : a * 2 ^ 52 + m ≤ 9218868437227405312 := by omega
theorem cut_zero (neg : Bool) (n : Nat) : Ieee.Toward.even.cut neg n 0 = n := by
  simp [Ieee.Toward.cut, Nat.mod_one]

/-- A number of few digits, written exactly: what the word says. L: its greatest digit's place. -/
theorem nearest_word (n L : Nat) (p : Int) (hL : n.log2 = L) (h0 : n ≠ 0) (hl : L ≤ 52) (hp : -1000 ≤ p) (hp2 : p ≤ 900) :
    F64.nearest false n p = (p + L - 52 + 1074).toNat * 2 ^ 52 + n * 2 ^ (52 - L) := by
  have hlt : n < 2 ^ (L + 1) := by rw [← hL]; exact Nat.lt_log2_self
  have hk : n * 2 ^ (52 - L) < 2 ^ 53 := by
    have : n * 2 ^ (52 - L) < 2 ^ (L + 1) * 2 ^ (52 - L) := Nat.mul_lt_mul_of_pos_right hlt (Nat.two_pow_pos _)
    rwa [← Nat.pow_add, show L + 1 + (52 - L) = 53 by omega] at this
  unfold Ieee.Format.nearest
  rw [if_neg h0, hL, f_bits, f_least, f_binade, f_inf]
  have e1 : max (p + (L : Int) - ((52 : Nat) : Int)) (-1074) = p + L - 52 := by omega
  rw [e1]
  have e2 : (p - (p + (L : Int) - 52)).toNat = 52 - L := by omega
  have e3 : ((p + (L : Int) - 52) - p).toNat = 0 := by omega
  have e4 : (p + (L : Int) - 52 - (-1074)) = p + L - 52 + 1074 := by omega
  simp only [e2, e3, e4, cut_zero, Nat.shiftLeft_eq]
  have this : (p + (L : Int) - 52 + 1074).toNat ≤ 1974 := by omega
  rw [word_false, Nat.min_eq_left (rung_le this hk)]

theorem pow_le_log {n L : Nat} (hL : n.log2 = L) (h0 : n ≠ 0) : 2 ^ L ≤ n := by rw [← hL]; exact Nat.log2_self_le h0

/-- .. and read again. -/
theorem read_nearest (n L : Nat) (p : Int) (hL : n.log2 = L) (h0 : n ≠ 0) (hl : L ≤ 52) (hp : -1000 ≤ p) (hp2 : p ≤ 900) :
    F64.read (F64.nearest false n p) = .number false (n * 2 ^ (52 - L)) (p + L - 52) := by
  rw [nearest_word n L p hL h0 hl hp hp2]
  have hlt : n < 2 ^ (L + 1) := by rw [← hL]; exact Nat.lt_log2_self
  have hge := pow_le_log hL h0
  have hk : n * 2 ^ (52 - L) < 2 ^ 53 := by
    have : n * 2 ^ (52 - L) < 2 ^ (L + 1) * 2 ^ (52 - L) := Nat.mul_lt_mul_of_pos_right hlt (Nat.two_pow_pos _)
    rwa [← Nat.pow_add, show L + 1 + (52 - L) = 53 by omega] at this
  have hk2 : 2 ^ 52 ≤ n * 2 ^ (52 - L) := by
    have : 2 ^ L * 2 ^ (52 - L) ≤ n * 2 ^ (52 - L) := Nat.mul_le_mul_right _ hge
    rwa [← Nat.pow_add, show L + (52 - L) = 52 by omega] at this
  generalize n * 2 ^ (52 - L) = m at *
  obtain ⟨E, hE⟩ : ∃ E, E = (p + (L : Int) - 52 + 1074).toNat := ⟨_, rfl⟩
  have hE2 : E ≤ 1974 := by omega
  have hE3 : ((E : Nat) : Int) = p + L - 52 + 1074 := by omega
  rw [← hE]
  have hmod : (E * 2 ^ 52 + m) % 9223372036854775808 = E * 2 ^ 52 + m := Nat.mod_eq_of_lt (by omega)
  have hdiv0 : (E * 2 ^ 52 + m) / 9223372036854775808 = 0 := Nat.div_eq_of_lt (by omega)
  unfold Ieee.Format.read
  simp only [f_sign, f_binade, f_inf, f_least, hmod, hdiv0]
  rw [if_neg (by omega), if_pos (by omega)]
  have hd : (E * 2 ^ 52 + m) / 2 ^ 52 = E + 1 := by omega
  have hm : (E * 2 ^ 52 + m) % 2 ^ 52 = m - 2 ^ 52 := by omega
  rw [hd, hm]
  have e1 : (2 ^ 52 + (m - 2 ^ 52)) = m := by omega
  have e2 : (-1074 : Int) + ((E + 1 - 1 : Nat) : Int) = p + L - 52 := by omega
  rw [e1, e2]
  rfl

theorem log2_mul_pow {n k : Nat} (h0 : n ≠ 0) : (n * 2 ^ k).log2 = n.log2 + k := by
  have h1 := Nat.log2_self_le h0
  have h2 : n < 2 ^ (n.log2 + 1) := Nat.lt_log2_self
  have hp : 0 < 2 ^ k := Nat.two_pow_pos k
  refine (Nat.log2_eq_iff (Nat.mul_ne_zero h0 (by omega))).2 ⟨?_, ?_⟩
  · rw [Nat.pow_add]; exact Nat.mul_le_mul_right _ h1
  · rw [show n.log2 + k + 1 = (n.log2 + 1) + k by omega, Nat.pow_add]; exact Nat.mul_lt_mul_of_pos_right h2 hp

theorem cut_exact (neg : Bool) (m d : Nat) (h0 : m ≠ 0) : Ieee.Toward.even.cut neg (m * 2 ^ d) d = m := by
  have hp : 0 < 2 ^ d := Nat.two_pow_pos d
  have hmin : min d ((m * 2 ^ d).log2 + 2) = d := by rw [log2_mul_pow h0]; omega
  simp [Ieee.Toward.cut, hmin, Nat.shiftLeft_eq, Nat.mul_div_cancel _ hp]

/-- The same number, spelt with more digits. -/
theorem nearest_shift (n L k : Nat) (p : Int) (hL : n.log2 = L) (h0 : n ≠ 0) (hl : L ≤ 52) (hp : -1000 ≤ p) (hp2 : p ≤ 900) :
    F64.nearest false (n * 2 ^ k) (p - k) = F64.nearest false n p := by
  have h0' : n * 2 ^ k ≠ 0 := Nat.mul_ne_zero h0 (by have := Nat.two_pow_pos k; omega)
  rw [nearest_word n L p hL h0 hl hp hp2]
  have hlt : n < 2 ^ (L + 1) := by rw [← hL]; exact Nat.lt_log2_self
  have hk : n * 2 ^ (52 - L) < 2 ^ 53 := by
    have : n * 2 ^ (52 - L) < 2 ^ (L + 1) * 2 ^ (52 - L) := Nat.mul_lt_mul_of_pos_right hlt (Nat.two_pow_pos _)
    rwa [← Nat.pow_add, show L + 1 + (52 - L) = 53 by omega] at this
  unfold Ieee.Format.nearest
  rw [if_neg h0', log2_mul_pow h0, hL, f_bits, f_least, f_binade, f_inf]
  have e1 : max (p - (k : Int) + ((L + k : Nat) : Int) - ((52 : Nat) : Int)) (-1074) = p + L - 52 := by omega
  rw [e1]
  have e4 : (p + (L : Int) - 52 - (-1074)) = p + L - 52 + 1074 := by omega
  have hcut : Ieee.Toward.even.cut false ((n * 2 ^ k) <<< (p - (k : Int) - (p + (L : Int) - 52)).toNat) ((p + (L : Int) - 52) - (p - (k : Int))).toNat = n * 2 ^ (52 - L) := by
    by_cases hc : k ≤ 52 - L
    · have e2 : (p - (k : Int) - (p + (L : Int) - 52)).toNat = 52 - L - k := by omega
      have e3 : ((p + (L : Int) - 52) - (p - (k : Int))).toNat = 0 := by omega
      rw [e2, e3, cut_zero, Nat.shiftLeft_eq, Nat.mul_assoc, ← Nat.pow_add, show k + (52 - L - k) = 52 - L by omega]
    · have e2 : (p - (k : Int) - (p + (L : Int) - 52)).toNat = 0 := by omega
      have e3 : ((p + (L : Int) - 52) - (p - (k : Int))).toNat = k - (52 - L) := by omega
      rw [e2, e3, Nat.shiftLeft_zero]
      have e5 : n * 2 ^ k = (n * 2 ^ (52 - L)) * 2 ^ (k - (52 - L)) := by rw [Nat.mul_assoc, ← Nat.pow_add, show 52 - L + (k - (52 - L)) = k by omega]
      rw [e5]
      exact cut_exact false _ _ (Nat.mul_ne_zero h0 (by have := Nat.two_pow_pos (52 - L); omega))
  simp only [hcut, e4]
  have this : (p + (L : Int) - 52 + 1074).toNat ≤ 1974 := by omega
  rw [word_false, Nat.min_eq_left (rung_le this hk)]
end Go.Proofs.Ybulkcoda
