/- The plain law of the bounds in seconds: which words they are, that they ascend, and between which of them a duration is. -/
import Derived.Test.YtbdcpfpoohadaaaOrd
import Derived.Test.YtbdcpfpoohadaaaPlain
import Derived.Laws.FloatArith
namespace Go.Proofs.Ytbdcpfpoohadaaa
open Fl (Q posInf negInf giga)

/-- The word of bound j. -/
def bd (j : Nat) : Nat := if j = 0 then negInf else if j = 162 then posInf else Q (low (j - 1))

/-- The word of a duration in seconds. -/
def S (d : Int) : Nat := if d < 0 then 9223372036854775808 + Q d.natAbs else Q d.natAbs

theorem Q_steps : ∀ i, i < 160 → Q (low i) < Q (low (i + 1)) := by decide +kernel
theorem Q_gaps : ∀ i, i < 160 → Q (low (i + 1) - 1) < Q (low (i + 1)) := by decide +kernel
theorem Q_last : Q 140737488355328 = 4684075716116403861 := by decide +kernel

theorem bd_zero : bd 0 = negInf := rfl
theorem bd_last : bd 162 = posInf := rfl
theorem bd_mid (i : Nat) (h : i < 161) : bd (i + 1) = Q (low i) := by
  unfold bd
  rw [if_neg (by omega), if_neg (by omega), Nat.add_sub_cancel]

theorem Qlow_lt (i : Nat) (h : i < 161) : Q (low i) < 9218868437227405312 := by
  have := low_le_max i (by omega)
  exact Fl.Q_lt (by omega)

/-- FnAscend's law. -/
theorem bd_ascend (i : Nat) (h : i < 162) : (FloatKind.f64.format.order (bd i) (bd (i + 1)) == some .lt) = true := by
  show (Ieee.double.order (bd i) (bd (i + 1)) == some .lt) = true
  by_cases h0 : i = 0
  · subst h0
    rw [bd_zero, bd_mid 0 (by omega), Fl.ord_negInf_pos (Qlow_lt 0 (by omega))]
    rfl
  · obtain ⟨j, rfl⟩ : ∃ j, i = j + 1 := ⟨i - 1, by omega⟩
    by_cases h1 : j = 160
    · subst h1
      rw [show 160 + 1 + 1 = 162 from rfl, bd_last, bd_mid 160 (by omega), Fl.ord_posInf (Qlow_lt 160 (by omega))]
      rfl
    · rw [bd_mid j (by omega), bd_mid (j + 1) (by omega), Fl.ord_lt (Q_steps j (by omega)) (Qlow_lt (j + 1) (by omega))]
      rfl

/-- FnSeconds's law. -/
theorem sec_between (d : Int) (h0 : -9223372036854775808 ≤ d) (h1 : d ≤ 9223372036854775807) :
    (FloatKind.f64.format.order (bd (wh d + 1).toNat) (S d) == some .lt || FloatKind.f64.format.order (bd (wh d + 1).toNat) (S d) == some .eq) = true ∧
    (FloatKind.f64.format.order (S d) (bd (wh d + 2).toNat) == some .lt) = true := by
  show (Ieee.double.order (bd (wh d + 1).toNat) (S d) == some .lt || Ieee.double.order (bd (wh d + 1).toNat) (S d) == some .eq) = true ∧
    (Ieee.double.order (S d) (bd (wh d + 2).toNat) == some .lt) = true
  rcases wh_spec d h1 with ⟨a, e⟩ | ⟨a, e⟩ | ⟨m, hm, e, a, b⟩
  · have hS : S d = 9223372036854775808 + Q d.natAbs := by unfold S; rw [if_pos a]
    have hb := Fl.X_bounds (d := d.natAbs) (by omega) (by omega)
    have hq : 4503599627370496 ≤ Q d.natAbs := by rw [Fl.Q_pos_eq (by omega)]; exact Fl.QX_ge (by omega)
    have hl : Q d.natAbs < 9218868437227405312 := Fl.Q_lt (by omega)
    rw [e, hS, show ((-1 : Int) + 1).toNat = 0 from rfl, show ((-1 : Int) + 2).toNat = 0 + 1 from rfl, bd_zero, bd_mid 0 (by omega), show Q (low 0) = 0 from rfl,
      Fl.ord_negInf_neg hq hl, Fl.ord_neg_zero hq hl]
    exact ⟨rfl, rfl⟩
  · have hS : S d = Q d.natAbs := by unfold S; rw [if_neg (by omega)]
    have hl : Q d.natAbs < 9218868437227405312 := Fl.Q_lt (by omega)
    have hm : Q (low 160) ≤ Q d.natAbs := Fl.Q_mono (by rw [low_160]; omega) (by omega)
    rw [e, hS, show ((160 : Int) + 1).toNat = 160 + 1 from rfl, show ((160 : Int) + 2).toNat = 162 from rfl, bd_mid 160 (by omega), bd_last, Fl.ord_posInf hl]
    exact ⟨Fl.ord_le hm hl, rfl⟩
  · have hS : S d = Q d.natAbs := by unfold S; rw [if_neg (by omega)]
    have hmax := low_le_max (m + 1) (by omega)
    have h1 : Q (low m) ≤ Q d.natAbs := Fl.Q_mono (by omega) (by omega)
    have h2 : Q d.natAbs ≤ Q (low (m + 1) - 1) := Fl.Q_mono (by omega) (by omega)
    have h3 := Q_gaps m hm
    have hl := Qlow_lt (m + 1) (by omega)
    rw [e, hS, show ((m : Int) + 1).toNat = m + 1 by omega, show ((m : Int) + 2).toNat = m + 1 + 1 by omega, bd_mid m (by omega), bd_mid (m + 1) (by omega), Fl.ord_lt (by omega) hl]
    exact ⟨Fl.ord_le h1 (by omega), rfl⟩

/-- A whole number as a float, divided by 1e9. -/
theorem fquo (d : Int) (h0 : -9223372036854775808 ≤ d) (h1 : d ≤ 9223372036854775807) : floatBits .quo .f64 (floatOfInt .f64 d) 4741671816366391296 = some (S d) := by
  show Ieee.double.div (Ieee.double.nearest (decide (d < 0)) d.natAbs 0) giga = some (S d)
  unfold S
  by_cases c : d < 0
  · rw [if_pos c, show decide (d < 0) = true from decide_eq_true c, Fl.word_eq true d.natAbs (by omega) (by omega), Fl.word_true]
    exact Fl.div_word_neg d.natAbs (by omega) (by omega)
  · rw [if_neg c, show decide (d < 0) = false from decide_eq_false c]
    by_cases z : d = 0
    · subst z
      decide +kernel
    · rw [Fl.word_eq false d.natAbs (by omega) (by omega), Fl.word_false]
      exact Fl.div_word d.natAbs (by omega) (by omega)

theorem S_nat (n : Nat) : S (n : Int) = Q n := by
  unfold S
  rw [if_neg (by omega), Int.natAbs_natCast]
end Go.Proofs.Ytbdcpfpoohadaaa
