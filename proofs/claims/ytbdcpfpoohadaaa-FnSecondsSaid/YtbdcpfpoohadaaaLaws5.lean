/- The walk of FnSeconds. -/
import Derived.Test.YtbdcpfpoohadaaaLaws4
import Derived.Test.YtbdcpfpoohadaaaLaws1
namespace Go.Proofs.Ytbdcpfpoohadaaa
open Go.RowKit

theorem run_quoS (d : Int) (h0 : -9223372036854775808 ≤ d) (h1 : d ≤ 9223372036854775807) (w : World) :
    (binOp .quo 24 (.float .f64 (floatOfInt .f64 d)) (.float .f64 4741671816366391296)).run Try.prog w = .ok (.float .f64 (S d)) w :=
  run_float_arith w .quo 24 .f64 _ _ _ (fquo d h0 h1)

theorem wh_range (d : Int) (h1 : d ≤ 9223372036854775807) : -1 ≤ wh d ∧ wh d ≤ 160 := by
  rcases wh_spec d h1 with ⟨_, e⟩ | ⟨_, e⟩ | ⟨m, hm, e, _, _⟩ <;> omega

set_option maxRecDepth 100000 in
set_option maxHeartbeats 400000 in
theorem seconds_at (d : Int) (b0 : -9223372036854775808 ≤ d) (b1 : d ≤ 9223372036854775807) (m : Nat) (hm : m ≤ 161) (HM : Hid (wh d = (m : Int) - 1)) (w : World) :
    Calls Try.prog 12 #[.int .i64 d] w fun e w' => e = .returned (.bool true) ∧ Below w.heap.size w w' := by
  have hbt := sec_between d b0 b1
  rw [HM.out, show ((m : Int) - 1 + 1).toNat = m by omega, show ((m : Int) - 1 + 2).toNat = m + 1 by omega] at hbt
  have HBT := Lib.hid hbt
  have hq := run_quoS d b0 b1
  clear hbt
  go_enter Try.func12, Try.ntmps12
  go_wp2_with fail
  refine (irec_one d _ _ _ b0 b1 (cell_boxed _ _)).mono ?_
  rintro e w1 ⟨g, cap, rfl, hg0, hg1, hcs, hb1⟩
  go_wp2_with fail
  refine (where_one d g cap w1 hg1 hcs).mono ?_
  rw [HM.out]
  rintro e w2 ⟨rfl, hb2⟩
  have Hw2 := Lib.hid (below_one (Below.refl w.heap.size w) (Nat.le_refl _) (.int .i64 d) hb1 hb2)
  clear hcs hb1 hb2 hg0 hg1
  go_wp2_with fail
  refine (bounds_any w2).mono ?_
  rintro e w3 ⟨rfl, hc, hb, hs⟩
  have HB : Hid (Below w.heap.size w w3) := Lib.hid (Hw2.out.1.trans (hb.mono Hw2.out.2))
  have c1 := hc m (by omega)
  have c2 : w3.cell? ⟨w2.heap.size, ((m : Int) - 1 + 2).toNat, none⟩ = some (.float .f64 (bd (m + 1))) := by
    rw [show ((m : Int) - 1 + 2).toNat = m + 1 by omega]
    exact hc (m + 1) (by omega)
  obtain ⟨t1, t2⟩ := HBT.out
  clear hc hb hs
  go_wp2_with fail
  go_ret
  exact ⟨rfl, HB.out⟩

theorem seconds_walk (d : Int) (w0 : (Lit.int .i64 d).wf = true) (w : World) : Calls Try.prog 12 #[.int .i64 d] w fun e w' => e = .returned (.bool true) ∧ Below w.heap.size w w' := by
  obtain ⟨b0, b1⟩ := wf_bounds w0
  have hr := wh_range d b1
  exact seconds_at d b0 b1 (wh d + 1).toNat (by omega) (Lib.hid (by omega)) w
end Go.Proofs.Ytbdcpfpoohadaaa
