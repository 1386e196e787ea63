/- A whole number as a double, divided by 1e9: what word it is, and that it is monotone; the order of words. Plain arithmetic, no program in sight. -/
import Derived.Test.YtbdcpfpoohadaaaRound
namespace Go.Proofs.Ytbdcpfpoohadaaa.Fl
open Ieee

/-- The word of 1e9. -/
def giga : Nat := 4741671816366391296
theorem read_giga : double.read giga = .number false 8388608000000000 (-23) := by decide +kernel

/-- The quotient's digits: m * 2 ^ 54 divided by the digits of 1e9, and one digit that tells whether anything is left over. -/
def G (m : Nat) : Nat := 2 * ((m <<< 54) / 8388608000000000) + ((m <<< 54) % 8388608000000000 != 0).toNat

theorem G_mono {m n : Nat} (h : m ≤ n) : G m ≤ G n := by
  unfold G
  have h1 : m <<< 54 ≤ n <<< 54 := by rw [Nat.shiftLeft_eq, Nat.shiftLeft_eq]; exact Nat.mul_le_mul_right _ h
  generalize m <<< 54 = a at *
  generalize n <<< 54 = b at *
  have h2 : a / 8388608000000000 ≤ b / 8388608000000000 := Nat.div_le_div_right h1
  have b1 := Bool.toNat_le (a % 8388608000000000 != 0)
  rcases Nat.lt_or_eq_of_le h2 with h3 | h3
  · omega
  · rw [h3]
    refine Nat.add_le_add_left (toNat_mono fun hb => ?_) _
    rw [bne_iff_ne] at hb ⊢
    omega

theorem G_pos {m : Nat} (h : 4503599627370496 ≤ m) : G m ≠ 0 := by
  have h1 : G 4503599627370496 ≤ G m := G_mono h
  have h2 : G 4503599627370496 ≠ 0 := by decide +kernel
  omega

theorem read_normal (x : Nat) (h1 : 4503599627370496 ≤ x) (h2 : x < 9218868437227405312) :
    double.read x = .number false (4503599627370496 + x % 4503599627370496) (-1074 + ((x / 4503599627370496 - 1 : Nat) : Int)) := by
  unfold Format.read
  rw [signWeight_double, binade_double, infRung_double, leastPlace_double]
  have e1 : x / 9223372036854775808 % 2 = 0 := by omega
  have e2 : x % 9223372036854775808 = x := by omega
  simp only [e1, e2]
  rw [if_neg (by omega), if_pos h2]
  rfl

theorem log2_of (m k : Nat) (h1 : 2 ^ k ≤ m) (h2 : m < 2 ^ (k + 1)) : m.log2 = k := by
  have h0 : m ≠ 0 := by have := Nat.two_pow_pos k; omega
  obtain ⟨a, b⟩ := log2_bounds h0
  rcases Nat.lt_trichotomy m.log2 k with h | h | h
  · have : 2 ^ (m.log2 + 1) ≤ 2 ^ k := Nat.pow_le_pow_right (by omega) (by omega); omega
  · exact h
  · have : 2 ^ (k + 1) ≤ 2 ^ m.log2 := Nat.pow_le_pow_right (by omega) (by omega); omega

theorem quotient_eq (neg : Bool) (m : Nat) (h1 : 4503599627370496 ≤ m) (h2 : m < 9007199254740992) (i : Int) :
    (Datum.number neg m i).quotient 54 (.number false 8388608000000000 (-23)) = some (.number neg (G m) (i - -23 - 54 - 1)) := by
  have l1 : m.log2 = 52 := log2_of m 52 (by omega) (by omega)
  have l2 : (8388608000000000 : Nat).log2 = 52 := by decide +kernel
  unfold Datum.quotient
  simp only [l1, l2]
  unfold G
  simp

/-- The quotient's word, of a word in or above the 85th binade. -/
def QX (x : Nat) : Nat := (x / 4503599627370496 - 85) * 4503599627370496 + phi (G (4503599627370496 + x % 4503599627370496))

theorem top_step : phi (G 9007199254740991) ≤ 4503599627370496 + phi (G 4503599627370496) := by decide +kernel
theorem top_lt : phi (G 9007199254740991) < 57 * 4503599627370496 := by decide +kernel

theorem QX_mono {x y : Nat} (h0 : 382805968326492160 ≤ x) (h : x ≤ y) : QX x ≤ QX y := by
  unfold QX
  have hl : x / 4503599627370496 ≤ y / 4503599627370496 := Nat.div_le_div_right h
  have h85 : 85 ≤ x / 4503599627370496 := by omega
  rcases Nat.lt_or_eq_of_le hl with h2 | h2
  · have a1 : phi (G (4503599627370496 + x % 4503599627370496)) ≤ phi (G 9007199254740991) := phi_mono (G_pos (by omega)) (G_mono (by omega))
    have a2 : phi (G 4503599627370496) ≤ phi (G (4503599627370496 + y % 4503599627370496)) := phi_mono (G_pos (by omega)) (G_mono (by omega))
    have a3 := top_step
    omega
  · have a1 : phi (G (4503599627370496 + x % 4503599627370496)) ≤ phi (G (4503599627370496 + y % 4503599627370496)) := phi_mono (G_pos (by omega)) (G_mono (by omega))
    omega

theorem QX_lt {x : Nat} (h : x ≤ 1086 * 4503599627370496) : QX x < 9218868437227405312 := by
  unfold QX
  have a1 : phi (G (4503599627370496 + x % 4503599627370496)) ≤ phi (G 9007199254740991) := phi_mono (G_pos (by omega)) (G_mono (by omega))
  have a2 := top_lt
  omega

/-- The word of a whole number from 1 on. -/
def X (d : Nat) : Nat := 1022 * 4503599627370496 + phi d

theorem phi_one : phi 1 = 4503599627370496 := by decide +kernel
theorem phi_top : phi 9223372036854775808 = 64 * 4503599627370496 := by decide +kernel

theorem X_bounds {d : Nat} (h1 : 1 ≤ d) (h2 : d ≤ 9223372036854775808) : 1023 * 4503599627370496 ≤ X d ∧ X d ≤ 1086 * 4503599627370496 := by
  have a1 : phi 1 ≤ phi d := phi_mono (by omega) h1
  have a2 : phi d ≤ phi 9223372036854775808 := phi_mono (by omega) h2
  rw [phi_one] at a1
  rw [phi_top] at a2
  unfold X
  omega

theorem X_mono {d e : Nat} (h1 : 1 ≤ d) (h : d ≤ e) : X d ≤ X e := by
  have := phi_mono (show d ≠ 0 by omega) h
  unfold X
  omega

theorem word_eq (neg : Bool) (d : Nat) (h1 : 1 ≤ d) (h2 : d ≤ 9223372036854775808) : double.nearest neg d 0 = double.word neg (X d) := by
  rw [nearest_eq neg d 1022 (by omega) 0 (by omega), infRung_double]
  have := (X_bounds h1 h2).2
  unfold X at this ⊢
  rw [Nat.min_eq_left (by omega)]

/-- The word of d / 1e9. -/
def Q (d : Nat) : Nat := if d = 0 then 0 else QX (X d)

theorem word_false (r : Nat) : double.word false r = r := by
  unfold Format.word
  rw [if_neg (by decide)]

theorem write_number (neg : Bool) (m : Nat) (place : Int) : double.write (.number neg m place) = double.nearest neg m place := rfl

theorem QX_word (neg : Bool) (x : Nat) (b1 : 1023 * 4503599627370496 ≤ x) (b2 : x ≤ 1086 * 4503599627370496) :
    double.nearest neg (G (4503599627370496 + x % 4503599627370496)) (-1074 + ((x / 4503599627370496 - 1 : Nat) : Int) - -23 - 54 - 1) = double.word neg (QX x) := by
  rw [nearest_eq neg _ (x / 4503599627370496 - 85) (G_pos (by omega)) _ (by omega), infRung_double]
  have h3 := QX_lt b2
  unfold QX at h3 ⊢
  rw [Nat.min_eq_left (by omega)]

theorem Q_pos_eq {d : Nat} (h1 : 1 ≤ d) : Q d = QX (X d) := by
  unfold Q
  rw [if_neg (by omega)]

theorem div_word (d : Nat) (h1 : 1 ≤ d) (h2 : d ≤ 9223372036854775808) : double.div (X d) giga = some (Q d) := by
  obtain ⟨b1, b2⟩ := X_bounds h1 h2
  rw [Q_pos_eq h1]
  generalize X d = x at *
  unfold Format.div
  rw [read_giga, read_normal _ (by omega) (by omega), show double.fractionBits + 2 = 54 from rfl, quotient_eq _ _ (by omega) (by omega),
    Option.map_some, write_number, QX_word false x b1 b2, word_false]

theorem div_zero : double.div 0 giga = some 0 := by decide +kernel

theorem Q_lt {d : Nat} (h2 : d ≤ 9223372036854775808) : Q d < 9218868437227405312 := by
  unfold Q
  split
  · omega
  · exact QX_lt (X_bounds (by omega) h2).2

theorem Q_mono {d e : Nat} (h : d ≤ e) (h2 : e ≤ 9223372036854775808) : Q d ≤ Q e := by
  unfold Q
  split
  · exact Nat.zero_le _
  · rw [if_neg (by omega)]
    have := X_bounds (show 1 ≤ d by omega) (by omega)
    exact QX_mono (by omega) (X_mono (by omega) h)
end Go.Proofs.Ytbdcpfpoohadaaa.Fl
