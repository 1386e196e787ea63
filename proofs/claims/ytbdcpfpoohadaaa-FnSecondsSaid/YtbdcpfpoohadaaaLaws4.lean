/- The walk of FnAscend. -/
import Derived.Test.YtbdcpfpoohadaaaBnd
import Derived.BigQuiet
import Derived.Deep.QuietTactic
namespace Go.Proofs.Ytbdcpfpoohadaaa
open Go.RowKit

theorem ret_b {a : Bool} (h : a = true) : Ending.returned (.bool a) = .returned (.bool true) := by rw [h]

set_option maxRecDepth 100000 in
set_option maxHeartbeats 400000 in
theorem ascend_out (i : Int) (h : i < 0 ∨ 162 ≤ i) (w : World) : Calls Try.prog 3 #[.int .i64 i] w fun e w' => e = .returned (.bool true) ∧ Below w.heap.size w w' := by
  by_cases c : i < 0
  · clear h
    go_enter Try.func3, Try.ntmps3
    go_wp2_with fail
    refine (bounds_any w).mono ?_
    rintro e w1 ⟨rfl, hc, hb, hs⟩
    have HB := Lib.hid hb
    clear hc hb hs
    go_wp2_with fail
    go_ret
    exact ⟨rfl, HB.out⟩
  · have c2 : 162 ≤ i := by omega
    clear h
    go_enter Try.func3, Try.ntmps3
    go_wp2_with fail
    refine (bounds_any w).mono ?_
    rintro e w1 ⟨rfl, hc, hb, hs⟩
    have HB := Lib.hid hb
    clear hc hb hs
    go_wp2_with fail
    go_ret
    exact ⟨rfl, HB.out⟩

set_option maxRecDepth 100000 in
set_option maxHeartbeats 400000 in
theorem ascend_in (i : Nat) (h : i < 162) (w : World) : Calls Try.prog 3 #[.int .i64 i] w fun e w' => e = .returned (.bool true) ∧ Below w.heap.size w w' := by
  have HA := Lib.hid (bd_ascend i h)
  go_enter Try.func3, Try.ntmps3
  go_wp2_with fail
  refine (bounds_any w).mono ?_
  rintro e w1 ⟨rfl, hc, hb, hs⟩
  have HB := Lib.hid hb
  have c1 := hc i (by omega)
  have c2 := hc (i + 1) (by omega)
  clear hc hb hs
  go_wp2_with fail
  go_quiet (fail)
  go_wp2_with fail
  go_ret
  exact ⟨ret_b HA.out, below_drewN HB.out nq⟩

theorem ascend_walk (i : Int) (w : World) : Calls Try.prog 3 #[.int .i64 i] w fun e w' => e = .returned (.bool true) ∧ Below w.heap.size w w' := by
  by_cases h : i < 0 ∨ 162 ≤ i
  · exact ascend_out i h w
  · obtain ⟨n, rfl⟩ := Int.eq_ofNat_of_zero_le (show 0 ≤ i by omega)
    exact ascend_in n (by omega) w
end Go.Proofs.Ytbdcpfpoohadaaa
