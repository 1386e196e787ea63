/- Rounding to a word of the double format is monotone, and so is the quotient by 1e9: plain arithmetic, no program in sight. -/
import Ieee.Arith
namespace Go.Proofs.Ytbdcpfpoohadaaa.Fl
open Ieee

/-- n / g to the nearest, between two the even one. -/
def rnd (n g : Nat) : Nat := n / g + (decide (g < 2 * (n % g)) || (g == 2 * (n % g) && n / g % 2 == 1)).toNat

theorem cut_even (neg : Bool) (n drop : Nat) : Toward.even.cut neg n drop = rnd n (1 <<< min drop (n.log2 + 2)) := rfl

theorem rnd_le (n g : Nat) : rnd n g ≤ n / g + 1 := by
  unfold rnd
  have := Bool.toNat_le (decide (g < 2 * (n % g)) || (g == 2 * (n % g) && n / g % 2 == 1))
  omega
theorem le_rnd (n g : Nat) : n / g ≤ rnd n g := Nat.le_add_right _ _

theorem toNat_mono {a b : Bool} (h : a = true → b = true) : a.toNat ≤ b.toNat := by
  cases a
  · exact Nat.zero_le _
  · rw [h rfl]; exact Nat.le_refl _

theorem rnd_mono {n m g : Nat} (h : n ≤ m) : rnd n g ≤ rnd m g := by
  have h1 : n / g ≤ m / g := Nat.div_le_div_right h
  rcases Nat.lt_or_eq_of_le h1 with h2 | h2
  · have := rnd_le n g
    have := le_rnd m g
    omega
  · have e1 := Nat.div_add_mod n g
    have e2 := Nat.div_add_mod m g
    have hr : n % g ≤ m % g := by rw [h2] at e1; omega
    unfold rnd
    rw [h2]
    refine Nat.add_le_add_left (toNat_mono fun hb => ?_) _
    simp only [Bool.or_eq_true, Bool.and_eq_true, decide_eq_true_eq, beq_iff_eq] at hb ⊢
    omega

theorem rnd_one (n : Nat) : rnd n 1 = n := by
  unfold rnd
  simp [Nat.mod_one]

/-- The digits that are kept of a number that is not nought. -/
def R (m : Nat) : Nat := if m.log2 ≤ 52 then m <<< (52 - m.log2) else rnd m (2 ^ (m.log2 - 52))
/-- Where the number stands among the words, from the binade of 1 on. -/
def phi (m : Nat) : Nat := m.log2 * 2 ^ 52 + R m

theorem log2_bounds {m : Nat} (h : m ≠ 0) : 2 ^ m.log2 ≤ m ∧ m < 2 ^ (m.log2 + 1) := ⟨Nat.log2_self_le h, Nat.lt_log2_self⟩

theorem R_bounds {m : Nat} (h : m ≠ 0) : 2 ^ 52 ≤ R m ∧ R m ≤ 2 ^ 53 := by
  obtain ⟨a, b⟩ := log2_bounds h
  unfold R
  split
  · rename_i hl
    rw [Nat.shiftLeft_eq]
    have e1 : 2 ^ m.log2 * 2 ^ (52 - m.log2) = 2 ^ 52 := by rw [← Nat.pow_add]; congr 1; omega
    have e2 : 2 ^ (m.log2 + 1) * 2 ^ (52 - m.log2) = 2 ^ 53 := by rw [← Nat.pow_add]; congr 1; omega
    exact ⟨by rw [← e1]; exact Nat.mul_le_mul_right _ a, by rw [← e2]; exact Nat.mul_le_mul_right _ (Nat.le_of_lt b)⟩
  · rename_i hl
    have hp : 0 < 2 ^ (m.log2 - 52) := Nat.two_pow_pos _
    have e1 : 2 ^ 52 * 2 ^ (m.log2 - 52) = 2 ^ m.log2 := by rw [← Nat.pow_add]; congr 1; omega
    have e2 : 2 ^ 53 * 2 ^ (m.log2 - 52) = 2 ^ (m.log2 + 1) := by rw [← Nat.pow_add]; congr 1; omega
    have q1 : 2 ^ 52 ≤ m / 2 ^ (m.log2 - 52) := (Nat.le_div_iff_mul_le hp).2 (by rw [e1]; exact a)
    have q2 : m / 2 ^ (m.log2 - 52) < 2 ^ 53 := (Nat.div_lt_iff_lt_mul hp).2 (by rw [e2]; exact b)
    have := rnd_le m (2 ^ (m.log2 - 52))
    have := le_rnd m (2 ^ (m.log2 - 52))
    omega

theorem log2_mono {m n : Nat} (h0 : m ≠ 0) (h : m ≤ n) : m.log2 ≤ n.log2 := by
  have hn : n ≠ 0 := by omega
  by_cases c : n.log2 < m.log2
  · obtain ⟨a, _⟩ := log2_bounds h0
    obtain ⟨_, b⟩ := log2_bounds hn
    have : 2 ^ (n.log2 + 1) ≤ 2 ^ m.log2 := Nat.pow_le_pow_right (by omega) (by omega)
    omega
  · omega

theorem phi_mono {m n : Nat} (h0 : m ≠ 0) (h : m ≤ n) : phi m ≤ phi n := by
  have hn : n ≠ 0 := by omega
  have hl := log2_mono h0 h
  have hm := R_bounds h0
  have hn2 := R_bounds hn
  unfold phi
  rcases Nat.lt_or_eq_of_le hl with h2 | h2
  · have : (m.log2 + 1) * 2 ^ 52 ≤ n.log2 * 2 ^ 52 := Nat.mul_le_mul_right _ h2
    omega
  · have : R m ≤ R n := by
      unfold R
      rw [← h2]
      split
      · rw [Nat.shiftLeft_eq, Nat.shiftLeft_eq]; exact Nat.mul_le_mul_right _ h
      · exact rnd_mono h
    rw [h2]
    omega

theorem leastPlace_double : double.leastPlace = -1074 := by decide +kernel
theorem infRung_double : double.infRung = 9218868437227405312 := by decide +kernel
theorem binade_double : double.binade = 4503599627370496 := by decide +kernel
theorem signWeight_double : double.signWeight = 9223372036854775808 := by decide +kernel

/-- The word nearest to m * 2 ^ (K - 1022). -/
theorem nearest_eq (neg : Bool) (m K : Nat) (h : m ≠ 0) (place : Int) (hp : place = (K : Int) - 1022) : double.nearest neg m place = double.word neg (min (K * 4503599627370496 + phi m) double.infRung) := by
  subst hp
  have hlast : max ((K : Int) - 1022 + (m.log2 : Int) - 52) (-1074) = (K : Int) - 1022 + (m.log2 : Int) - 52 := by omega
  unfold Format.nearest
  rw [if_neg h, leastPlace_double, binade_double, show double.fractionBits = 52 from rfl]
  simp only [show ((52 : Nat) : Int) = 52 from rfl, hlast]
  have e1 : ((K : Int) - 1022 + (m.log2 : Int) - 52 - -1074).toNat = K + m.log2 := by omega
  have e2 : ((K : Int) - 1022 - ((K : Int) - 1022 + (m.log2 : Int) - 52)).toNat = 52 - m.log2 := by omega
  have e3 : ((K : Int) - 1022 + (m.log2 : Int) - 52 - ((K : Int) - 1022)).toNat = m.log2 - 52 := by omega
  rw [e1, e2, e3, cut_even]
  have e4 : rnd (m <<< (52 - m.log2)) (1 <<< min (m.log2 - 52) ((m <<< (52 - m.log2)).log2 + 2)) = R m := by
    unfold R
    split
    · rename_i hl
      rw [show m.log2 - 52 = 0 by omega, Nat.zero_min, show 1 <<< 0 = 1 from rfl, rnd_one]
    · rename_i hl
      rw [show 52 - m.log2 = 0 by omega, Nat.shiftLeft_zero, Nat.min_eq_left (by omega), Nat.one_shiftLeft]
  have e5 : (K + m.log2) * 4503599627370496 + R m = K * 4503599627370496 + phi m := by unfold phi; omega
  rw [e4, e5]
end Go.Proofs.Ytbdcpfpoohadaaa.Fl
