/- The walk of FnExactBounds. -/
import Derived.Test.YtbdcpfpoohadaaaLaws4
import Derived.Test.YtbdcpfpoohadaaaLow
namespace Go.Proofs.Ytbdcpfpoohadaaa
open Go.RowKit

theorem neg_negInf (w : World) : (Op.unary .neg (.float .f64 Fl.negInf)).run Try.prog w = .ok (.float .f64 Fl.posInf) w := by kernel_rfl
theorem max_below_inf : (FloatKind.f64.format.order Fl.posInf 9218868437227405311 == some .gt) = true := by decide +kernel

set_option maxRecDepth 100000 in
set_option maxHeartbeats 400000 in
theorem isInf_pos (w : World) : Calls Try.prog 19 #[.float .f64 Fl.posInf, .int .i64 1] w fun e w' => e = .returned (.bool true) ∧ w = w' := by
  have h := max_below_inf
  go_enter Try.func19, Try.ntmps19
  go_wp2_with fail
  go_ret
  exact ⟨rfl, rfl⟩

set_option maxRecDepth 100000 in
set_option maxHeartbeats 400000 in
theorem isInf_neg (w : World) : Calls Try.prog 19 #[.float .f64 Fl.negInf, .int .i64 (-1)] w fun e w' => e = .returned (.bool true) ∧ w = w' := by
  have h := max_below_inf
  have hn := neg_negInf
  go_enter Try.func19, Try.ntmps19
  go_wp2_with fail
  go_ret
  exact ⟨rfl, rfl⟩

theorem eq_self (x : Nat) (h : x < 9218868437227405312) : (FloatKind.f64.format.order x x == some .eq) = true := by
  show (Ieee.double.order x x == some .eq) = true
  rw [Fl.ord_eq h]
  rfl

theorem low_q (i : Nat) (hi : i < 160) (w : World) (n : Nat) : Calls Try.prog 17 #[.int .i64 i] (w.drewN n) fun e w'' => e = .returned (.int .i64 (low i)) ∧ ∃ m, w'' = w.drewN m :=
  (low_any i hi (w.drewN n)).mono fun _ _ ⟨he, m, hm⟩ => ⟨he, n + m, by rw [hm, World.drewN_drewN]⟩

theorem bd_161 : bd 161 = 4684075716116403861 := by
  rw [bd_mid 160 (by omega), low_160, Q_last]

set_option maxRecDepth 100000 in
set_option maxHeartbeats 400000 in
theorem exactBounds_neg (i : Int) (h : i < 0) (w : World) : Calls Try.prog 10 #[.int .i64 i] w fun e w' => e = .returned (.bool true) ∧ Below w.heap.size w w' := by
  have he := eq_self 4684075716116403861 (by omega)
  go_enter Try.func10, Try.ntmps10
  go_wp2_with fail
  refine (bounds_any w).mono ?_
  rintro e w1 ⟨rfl, hc, hb, hs⟩
  have HB := Lib.hid hb
  have c0 := hc 0 (by omega)
  rw [bd_zero] at c0
  have c162 := hc 162 (by omega)
  rw [bd_last] at c162
  have c161 := hc 161 (by omega)
  rw [bd_161] at c161
  clear hc hb hs
  go_wp2_with fail
  refine (isInf_neg w1).mono ?_
  rintro e w2 ⟨rfl, rfl⟩
  go_wp2_with fail
  refine (isInf_pos w1).mono ?_
  rintro e w2 ⟨rfl, rfl⟩
  go_wp2_with fail
  go_ret
  exact ⟨rfl, HB.out⟩

set_option maxRecDepth 100000 in
set_option maxHeartbeats 400000 in
theorem exactBounds_big (i : Int) (h : 160 ≤ i) (w : World) : Calls Try.prog 10 #[.int .i64 i] w fun e w' => e = .returned (.bool true) ∧ Below w.heap.size w w' := by
  have he := eq_self 4684075716116403861 (by omega)
  go_enter Try.func10, Try.ntmps10
  go_wp2_with fail
  refine (bounds_any w).mono ?_
  rintro e w1 ⟨rfl, hc, hb, hs⟩
  have HB := Lib.hid hb
  have c0 := hc 0 (by omega)
  rw [bd_zero] at c0
  have c162 := hc 162 (by omega)
  rw [bd_last] at c162
  have c161 := hc 161 (by omega)
  rw [bd_161] at c161
  clear hc hb hs
  go_wp2_with fail
  refine (isInf_neg w1).mono ?_
  rintro e w2 ⟨rfl, rfl⟩
  go_wp2_with fail
  refine (isInf_pos w1).mono ?_
  rintro e w2 ⟨rfl, rfl⟩
  go_wp2_with fail
  go_ret
  exact ⟨rfl, HB.out⟩

set_option maxRecDepth 100000 in
set_option maxHeartbeats 400000 in
theorem exactBounds_in (i : Nat) (h : i < 160) (w : World) : Calls Try.prog 10 #[.int .i64 i] w fun e w' => e = .returned (.bool true) ∧ Below w.heap.size w w' := by
  have he := eq_self (Fl.Q (low i)) (Qlow_lt i (by omega))
  have hq := run_quo (low i : Int) (low i) rfl (by have := low_le_max i (by omega); omega)
  go_enter Try.func10, Try.ntmps10
  go_wp2_with fail
  refine (bounds_any w).mono ?_
  rintro e w1 ⟨rfl, hc, hb, hs⟩
  have HB := Lib.hid hb
  have c0 := hc 0 (by omega)
  rw [bd_zero] at c0
  have c162 := hc 162 (by omega)
  rw [bd_last] at c162
  have ci := hc (i + 1) (by omega)
  rw [bd_mid i (by omega)] at ci
  clear hc hb hs
  go_wp2_with fail
  refine (isInf_neg w1).mono ?_
  rintro e w2 ⟨rfl, rfl⟩
  go_wp2_with fail
  refine (isInf_pos w1).mono ?_
  rintro e w2 ⟨rfl, rfl⟩
  go_wp2_with fail
  go_quiet ((go_at_call 17; exact low_q i h _ _))
  go_wp2_with fail
  go_ret
  exact ⟨rfl, below_drewN HB.out _⟩

theorem exactBounds_walk (i : Int) (w : World) : Calls Try.prog 10 #[.int .i64 i] w fun e w' => e = .returned (.bool true) ∧ Below w.heap.size w w' := by
  by_cases h : i < 0
  · exact exactBounds_neg i h w
  · by_cases h2 : 160 ≤ i
    · exact exactBounds_big i h2 w
    · obtain ⟨n, rfl⟩ := Int.eq_ofNat_of_zero_le (show 0 ≤ i by omega)
      exact exactBounds_in n (by omega) w
end Go.Proofs.Ytbdcpfpoohadaaa
