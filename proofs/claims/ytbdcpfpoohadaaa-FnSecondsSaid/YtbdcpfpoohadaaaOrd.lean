/- The order of words of the double format, and negative quotients by 1e9: plain arithmetic, no program in sight. -/
import Derived.Test.YtbdcpfpoohadaaaQuot
namespace Go.Proofs.Ytbdcpfpoohadaaa.Fl
open Ieee

def M (x : Nat) : Nat := if x < 4503599627370496 then x else 4503599627370496 + x % 4503599627370496
def E (x : Nat) : Nat := if x < 4503599627370496 then 0 else x / 4503599627370496 - 1

theorem read_pos (x : Nat) (h : x < 9218868437227405312) : double.read x = .number false (M x) (-1074 + (E x : Int)) := by
  by_cases c : x < 4503599627370496
  · unfold Format.read M E
    rw [signWeight_double, binade_double, leastPlace_double]
    have e1 : x / 9223372036854775808 % 2 = 0 := by omega
    have e2 : x % 9223372036854775808 = x := by omega
    simp only [e1, e2]
    rw [if_pos c, if_pos c, if_pos c]
    rfl
  · rw [read_normal x (by omega) h]
    unfold M E
    rw [if_neg c, if_neg c]

theorem read_neg (x : Nat) (h1 : 4503599627370496 ≤ x) (h : x < 9218868437227405312) : double.read (9223372036854775808 + x) = .number true (M x) (-1074 + (E x : Int)) := by
  unfold Format.read M E
  rw [signWeight_double, binade_double, infRung_double, leastPlace_double]
  have e1 : (9223372036854775808 + x) / 9223372036854775808 % 2 = 1 := by omega
  have e2 : (9223372036854775808 + x) % 9223372036854775808 = x := by omega
  simp only [e1, e2]
  rw [if_neg (by omega), if_pos h, if_neg (by omega), if_neg (by omega)]
  rfl

/-- The value, in units of the least number. -/
def V (x : Nat) : Nat := M x * 2 ^ E x

theorem V_succ (x : Nat) : V x < V (x + 1) := by
  unfold V M E
  by_cases c : x + 1 < 4503599627370496
  · rw [if_pos (show x < 4503599627370496 by omega), if_pos c, if_pos c, if_pos (by omega)]
    omega
  · by_cases c2 : x < 4503599627370496
    · rw [if_pos c2, if_neg c, if_neg c, if_pos c2]
      have : x + 1 = 4503599627370496 := by omega
      rw [this]
      omega
    · rw [if_neg c2, if_neg c, if_neg c, if_neg c2]
      have hp : 0 < 2 ^ (x / 4503599627370496 - 1) := Nat.two_pow_pos _
      by_cases c3 : x % 4503599627370496 = 4503599627370495
      · rw [c3, show (x + 1) % 4503599627370496 = 0 by omega, show (x + 1) / 4503599627370496 - 1 = x / 4503599627370496 - 1 + 1 by omega, Nat.pow_succ]
        omega
      · rw [show (x + 1) % 4503599627370496 = x % 4503599627370496 + 1 by omega, show (x + 1) / 4503599627370496 = x / 4503599627370496 by omega]
        exact Nat.mul_lt_mul_of_pos_right (by omega) hp

theorem V_lt {x y : Nat} (h : x < y) : V x < V y := by
  induction y with
  | zero => omega
  | succ y ih =>
    have := V_succ y
    by_cases c : x = y
    · rw [c]; exact this
    · have := ih (by omega); omega

theorem scale (x a : Nat) (h : a ≤ E x) : M x * 2 ^ (E x - a) * 2 ^ a = V x := by
  unfold V
  rw [Nat.mul_assoc, ← Nat.pow_add, Nat.sub_add_cancel h]

theorem order_num (x y : Nat) (hx : x < 9218868437227405312) (hy : y < 9218868437227405312) :
    double.order x y = some (compare (((M x * 2 ^ (E x - min (E x) (E y)) : Nat)) : Int) ((M y * 2 ^ (E y - min (E x) (E y)) : Nat) : Int)) := by
  unfold Format.order
  rw [read_pos x hx, read_pos y hy]
  unfold Datum.order signed
  dsimp only
  rw [show (-1074 + (E x : Int) - min (-1074 + (E x : Int)) (-1074 + (E y : Int))).toNat = E x - min (E x) (E y) by omega,
    show (-1074 + (E y : Int) - min (-1074 + (E x : Int)) (-1074 + (E y : Int))).toNat = E y - min (E x) (E y) by omega,
    Nat.shiftLeft_eq, Nat.shiftLeft_eq]
  simp

theorem cmp_lt {a b : Int} (h : a < b) : compare a b = .lt := by
  show compareOfLessAndEq a b = .lt
  unfold compareOfLessAndEq
  rw [if_pos h]

theorem cmp_eq (a : Int) : compare a a = .eq := by
  show compareOfLessAndEq a a = .eq
  unfold compareOfLessAndEq
  rw [if_neg (by omega), if_pos rfl]

theorem ord_lt {x y : Nat} (h : x < y) (hy : y < 9218868437227405312) : double.order x y = some .lt := by
  rw [order_num x y (by omega) hy, cmp_lt]
  have hp : 0 < 2 ^ min (E x) (E y) := Nat.two_pow_pos _
  have h1 := scale x (min (E x) (E y)) (Nat.min_le_left _ _)
  have h2 := scale y (min (E x) (E y)) (Nat.min_le_right _ _)
  have h3 := V_lt h
  rw [← h1, ← h2] at h3
  have := Nat.lt_of_mul_lt_mul_right h3
  omega

theorem ord_eq {x : Nat} (hx : x < 9218868437227405312) : double.order x x = some .eq := by
  rw [order_num x x hx hx, cmp_eq]

theorem ord_le {x y : Nat} (h : x ≤ y) (hy : y < 9218868437227405312) : (double.order x y == some .lt || double.order x y == some .eq) = true := by
  rcases Nat.lt_or_eq_of_le h with h1 | h1
  · rw [ord_lt h1 hy]; rfl
  · rw [h1, ord_eq hy]; rfl

def posInf : Nat := 9218868437227405312
def negInf : Nat := 18442240474082181120
theorem read_posInf : double.read posInf = .infinity false := by decide +kernel
theorem read_negInf : double.read negInf = .infinity true := by decide +kernel

theorem ord_posInf {x : Nat} (hx : x < 9218868437227405312) : double.order x posInf = some .lt := by
  unfold Format.order
  rw [read_pos x hx, read_posInf]
  rfl

theorem ord_negInf_pos {x : Nat} (hx : x < 9218868437227405312) : double.order negInf x = some .lt := by
  unfold Format.order
  rw [read_pos x hx, read_negInf]
  rfl

theorem ord_negInf_neg {x : Nat} (h1 : 4503599627370496 ≤ x) (hx : x < 9218868437227405312) : double.order negInf (9223372036854775808 + x) = some .lt := by
  unfold Format.order
  rw [read_neg x h1 hx, read_negInf]
  rfl

theorem ord_neg_zero {x : Nat} (h1 : 4503599627370496 ≤ x) (hx : x < 9218868437227405312) : double.order (9223372036854775808 + x) 0 = some .lt := by
  unfold Format.order
  rw [read_neg x h1 hx, read_pos 0 (by omega)]
  unfold Datum.order signed
  dsimp only
  rw [if_pos rfl, if_neg (by decide), show M 0 = 0 from rfl, Nat.shiftLeft_eq, Nat.zero_shiftLeft, cmp_lt]
  have hM : 0 < M x := by unfold M; rw [if_neg (by omega)]; omega
  have : 0 < M x * 2 ^ (-1074 + (E x : Int) - min (-1074 + (E x : Int)) (-1074 + (E 0 : Int))).toNat := Nat.mul_pos hM (Nat.two_pow_pos _)
  omega

theorem word_true (r : Nat) : double.word true r = 9223372036854775808 + r := by
  unfold Format.word
  rw [if_pos rfl, signWeight_double]

theorem QX_ge {x : Nat} (h : 1023 * 4503599627370496 ≤ x) : 4503599627370496 ≤ QX x := by
  have := QX_mono (x := 382805968326492160) (by omega) (show 382805968326492160 ≤ x by omega)
  have h2 : 4503599627370496 ≤ QX 382805968326492160 := by decide +kernel
  omega

/-- The word of -d / 1e9. -/
theorem div_word_neg (d : Nat) (h1 : 1 ≤ d) (h2 : d ≤ 9223372036854775808) : double.div (9223372036854775808 + X d) giga = some (9223372036854775808 + Q d) := by
  obtain ⟨b1, b2⟩ := X_bounds h1 h2
  rw [Q_pos_eq h1]
  generalize X d = x at *
  unfold Format.div
  rw [read_giga, read_neg x (by omega) (by omega)]
  unfold M E
  rw [if_neg (by omega), if_neg (by omega), show double.fractionBits + 2 = 54 from rfl, quotient_eq _ _ (by omega) (by omega),
    Option.map_some, write_number, QX_word true x b1 b2, word_true]
end Go.Proofs.Ytbdcpfpoohadaaa.Fl
