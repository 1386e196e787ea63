/- The walks of the laws on one and on two durations: FnExactOne, FnMonotone, FnNear, FnExactLow. -/
import Derived.Test.YtbdcpfpoohadaaaOne
namespace Go.Proofs.Ytbdcpfpoohadaaa
open Go.RowKit

theorem cell_boxed (w : World) (x : Int) : (w.alloc (.cells #[.int .i64 x] 2)).cell? ⟨w.heap.size, 0, none⟩ = some (.int .i64 x) := by
  rw [World.cell?_alloc_at _ _ _ _ rfl]
  rfl

theorem below_alloc {B : Nat} {w : World} (hB : w.heap.size = B) (o : Obj) : Below B w (w.alloc o) := (Below.refl _ _).alloc (by omega) _

set_option maxRecDepth 100000 in
set_option maxHeartbeats 400000 in
theorem exactOne_walk (d : Int) (w0 : (Lit.int .i64 d).wf = true) (w : World) :
    Calls Try.prog 6 #[.int .i64 d] w fun e w' => e = .returned (.bool true) ∧ Below w.heap.size w w' := by
  obtain ⟨b0, b1⟩ := wf_bounds w0
  have hcell := cell_boxed w d
  have hb0 := below_alloc (w := w) rfl (.cells #[.int .i64 d] 2)
  go_enter Try.func6, Try.ntmps6
  go_wp2_with fail
  refine (irec_one d _ _ _ b0 b1 hcell).mono ?_
  rintro e w1 ⟨g, cap, rfl, hg0, hg1, hcs, hb1⟩
  go_wp2_with fail
  refine (where_one d g cap w1 hg1 hcs).mono ?_
  rintro e w2 ⟨rfl, hb2⟩
  have HB : Hid (Below w.heap.size w w2) := Lib.hid ((hb0.trans (hb1.mono (by simp))).trans (hb2.mono (by have := hb1.size; simp at this; omega)))
  clear hcs hb1 hb2 hb0 hcell
  go_wp2_with fail
  refine (bucket_any d b1 w2).mono ?_
  rintro e w3 ⟨rfl, n, rfl⟩
  go_wp2_with fail
  go_ret
  exact ⟨rfl, below_drewN HB.out n⟩

/-- What one box, one Record and one Where make of old memory. -/
theorem below_one {B : Nat} {w0 w w1 w2 : World} (h : Below B w0 w) (hB : B ≤ w.heap.size) (v : Value) (hb1 : Below (w.alloc (.cells #[v] 2)).heap.size (w.alloc (.cells #[v] 2)) w1) (hb2 : Below w1.heap.size w1 w2) :
    Below B w0 w2 ∧ B ≤ w2.heap.size := by
  have h1 := hb1.size
  have h2 := hb2.size
  simp at h1
  exact ⟨((h.alloc hB _).trans (hb1.mono (by simp; omega))).trans (hb2.mono (by omega)), by omega⟩

theorem wh_lt (d e : Int) (hd : d ≤ 9223372036854775807) (he : e ≤ 9223372036854775807) (h : wh d < wh e) : d < e := by
  by_cases c : e ≤ d
  · have := wh_mono e d he hd c; omega
  · omega

theorem wh_small (d : Int) (hd : d ≤ 9223372036854775807) (h : wh d < 160) : d < 140737488355328 := by
  rcases wh_spec d hd with ⟨a, x⟩ | ⟨a, x⟩ | ⟨k, hk, x, a, b⟩
  · omega
  · omega
  · have := low_le_max (k + 1) (by omega); omega

theorem near_val (d e : Int) (hd : d ≤ 9223372036854775807) (he : e ≤ 9223372036854775807) (h : wh d = wh e) (h2 : ((0 ≤ wh e ∧ wh e < 160) ∧ 256 ≤ d) ∧ 256 ≤ e) :
    decide (max d e - min d e < wrap64 ((wrap64 (min d e + 3)).tdiv 4)) = true := by
  obtain ⟨⟨⟨h3, h4⟩, h5⟩, h6⟩ := h2
  have hn := wh_near d e hd he h (by omega) (by omega) h5 h6
  have s1 := wh_small d hd (by omega)
  have s2 := wh_small e he h4
  have e1 : wrap64 (min d e + 3) = min d e + 3 := by unfold wrap64; omega
  rw [e1, Int.tdiv_eq_ediv_of_nonneg (by omega), decide_eq_true_iff]
  have e2 : wrap64 ((min d e + 3) / 4) = (min d e + 3) / 4 := by unfold wrap64; omega
  rw [e2]
  exact hn

theorem ret_true {a : Bool} (h : a = true) : Ending.returned (.bool a) = .returned (.bool true) := by rw [h]

theorem mono_or (d e : Int) (h : d ≤ e) : (decide (d < e) || decide (wh e ≤ wh d)) = true := by
  by_cases c : d < e
  · simp [c]
  · have : d = e := by omega
    subst this
    simp

set_option maxRecDepth 100000 in
set_option maxHeartbeats 1000000 in
theorem monotone_le (d e : Int) (w0 : (Lit.int .i64 d).wf = true) (w1' : (Lit.int .i64 e).wf = true) (hde : d ≤ e) (w : World) :
    Calls Try.prog 7 #[.int .i64 d, .int .i64 e] w fun x w' => x = .returned (.bool true) ∧ Below w.heap.size w w' := by
  obtain ⟨b0, b1⟩ := wf_bounds w0
  obtain ⟨c0, c1⟩ := wf_bounds w1'
  have hm : wh d ≤ wh e := wh_mono d e b1 c1 hde
  go_enter Try.func7, Try.ntmps7
  go_wp2_with fail
  refine (irec_one d _ _ _ b0 b1 (cell_boxed _ _)).mono ?_
  rintro e1 w1 ⟨g, cap, rfl, hg0, hg1, hcs, hb1⟩
  go_wp2_with fail
  refine (where_one d g cap w1 hg1 hcs).mono ?_
  rintro e1 w2 ⟨rfl, hb2⟩
  have Hw2 : Hid (Below w.heap.size w w2 ∧ w.heap.size ≤ w2.heap.size) := Lib.hid (below_one (Below.refl _ _) (Nat.le_refl _) (.int .i64 (d)) hb1 hb2)
  clear hcs hb1 hb2 hg0 hg1
  go_wp2_with fail
  refine (irec_one e _ _ _ c0 c1 (cell_boxed _ _)).mono ?_
  rintro e2 w1 ⟨g, cap, rfl, hg0, hg1, hcs, hb1⟩
  go_wp2_with fail
  refine (where_one e g cap w1 hg1 hcs).mono ?_
  rintro e2 w3 ⟨rfl, hb2⟩
  have Hw3 : Hid (Below w.heap.size w w3 ∧ w.heap.size ≤ w3.heap.size) := Lib.hid (below_one Hw2.out.1 Hw2.out.2 (.int .i64 (e)) hb1 hb2)
  clear hcs hb1 hb2 hg0 hg1
  go_wp2_with fail
  · go_ret
    exact ⟨ret_true (mono_or d e hde), Hw3.out.1⟩
  · go_ret
    exact ⟨rfl, Hw3.out.1⟩

set_option maxRecDepth 100000 in
set_option maxHeartbeats 1000000 in
theorem monotone_gt (d e : Int) (w0 : (Lit.int .i64 d).wf = true) (w1' : (Lit.int .i64 e).wf = true) (hde : e < d) (w : World) :
    Calls Try.prog 7 #[.int .i64 d, .int .i64 e] w fun x w' => x = .returned (.bool true) ∧ Below w.heap.size w w' := by
  obtain ⟨b0, b1⟩ := wf_bounds w0
  obtain ⟨c0, c1⟩ := wf_bounds w1'
  have hm : wh e ≤ wh d := wh_mono e d c1 b1 (by omega)
  go_enter Try.func7, Try.ntmps7
  go_wp2_with fail
  refine (irec_one d _ _ _ b0 b1 (cell_boxed _ _)).mono ?_
  rintro e1 w1 ⟨g, cap, rfl, hg0, hg1, hcs, hb1⟩
  go_wp2_with fail
  refine (where_one d g cap w1 hg1 hcs).mono ?_
  rintro e1 w2 ⟨rfl, hb2⟩
  have Hw2 : Hid (Below w.heap.size w w2 ∧ w.heap.size ≤ w2.heap.size) := Lib.hid (below_one (Below.refl _ _) (Nat.le_refl _) (.int .i64 (d)) hb1 hb2)
  clear hcs hb1 hb2 hg0 hg1
  go_wp2_with fail
  refine (irec_one e _ _ _ c0 c1 (cell_boxed _ _)).mono ?_
  rintro e2 w1 ⟨g, cap, rfl, hg0, hg1, hcs, hb1⟩
  go_wp2_with fail
  refine (where_one e g cap w1 hg1 hcs).mono ?_
  rintro e2 w3 ⟨rfl, hb2⟩
  have Hw3 : Hid (Below w.heap.size w w3 ∧ w.heap.size ≤ w3.heap.size) := Lib.hid (below_one Hw2.out.1 Hw2.out.2 (.int .i64 (e)) hb1 hb2)
  clear hcs hb1 hb2 hg0 hg1
  go_wp2_with fail
  go_ret
  exact ⟨rfl, Hw3.out.1⟩

theorem monotone_walk (d e : Int) (w0 : (Lit.int .i64 d).wf = true) (w1' : (Lit.int .i64 e).wf = true) (w : World) :
    Calls Try.prog 7 #[.int .i64 d, .int .i64 e] w fun x w' => x = .returned (.bool true) ∧ Below w.heap.size w w' := by
  by_cases h : d ≤ e
  · exact monotone_le d e w0 w1' h w
  · exact monotone_gt d e w0 w1' (by omega) w

set_option maxRecDepth 100000 in
set_option maxHeartbeats 1000000 in
theorem near_walk (d e : Int) (w0 : (Lit.int .i64 d).wf = true) (w1' : (Lit.int .i64 e).wf = true) (w : World) :
    Calls Try.prog 8 #[.int .i64 d, .int .i64 e] w fun x w' => x = .returned (.bool true) ∧ Below w.heap.size w w' := by
  obtain ⟨b0, b1⟩ := wf_bounds w0
  obtain ⟨c0, c1⟩ := wf_bounds w1'
  go_enter Try.func8, Try.ntmps8
  go_wp2_with fail
  refine (irec_one d _ _ _ b0 b1 (cell_boxed _ _)).mono ?_
  rintro e1 w1 ⟨g, cap, rfl, hg0, hg1, hcs, hb1⟩
  go_wp2_with fail
  refine (where_one d g cap w1 hg1 hcs).mono ?_
  rintro e1 w2 ⟨rfl, hb2⟩
  have Hw2 : Hid (Below w.heap.size w w2 ∧ w.heap.size ≤ w2.heap.size) := Lib.hid (below_one (Below.refl _ _) (Nat.le_refl _) (.int .i64 (d)) hb1 hb2)
  clear hcs hb1 hb2 hg0 hg1
  go_wp2_with fail
  refine (irec_one e _ _ _ c0 c1 (cell_boxed _ _)).mono ?_
  rintro e2 w1 ⟨g, cap, rfl, hg0, hg1, hcs, hb1⟩
  go_wp2_with fail
  refine (where_one e g cap w1 hg1 hcs).mono ?_
  rintro e2 w3 ⟨rfl, hb2⟩
  have Hw3 : Hid (Below w.heap.size w w3 ∧ w.heap.size ≤ w3.heap.size) := Lib.hid (below_one Hw2.out.1 Hw2.out.2 (.int .i64 (e)) hb1 hb2)
  clear hcs hb1 hb2 hg0 hg1
  clear w0 w1'
  go_wp2_with fail
  all_goals go_ret
  all_goals first
    | exact ⟨rfl, Hw3.out.1⟩
    | exact ⟨ret_true (near_val d e b1 c1 (by assumption) (by assumption)), Hw3.out.1⟩

set_option maxRecDepth 100000 in
set_option maxHeartbeats 400000 in
theorem exactLow_in (n : Nat) (hi : n < 160) (w : World) :
    Calls Try.prog 5 #[.int .i64 n] w fun x w' => x = .returned (.bool true) ∧ Below w.heap.size w w' := by
  have hmax := low_le_max n (by omega)
  have H1 := Lib.hid (wh_low n hi)
  have H2 := Lib.hid (wh_low_pred n hi)
  go_enter Try.func5, Try.ntmps5
  go_wp2_with fail
  refine (low_any n hi _).mono ?_
  rintro e1 wl ⟨rfl, q, rfl⟩
  go_wp2_with fail
  refine (irec_one ((low n : Int)) _ _ _ (by omega) (by omega) (cell_boxed _ _)).mono ?_
  rintro e1 w1 ⟨g, cap, rfl, hg0, hg1, hcs, hb1⟩
  go_wp2_with fail
  refine (where_one ((low n : Int)) g cap w1 hg1 hcs).mono ?_
  rw [H1.out]
  rintro e1 w2 ⟨rfl, hb2⟩
  have Hw2 : Hid (Below w.heap.size w w2 ∧ w.heap.size ≤ w2.heap.size) := Lib.hid (below_one (below_drewN (Below.refl _ _) q) (Nat.le_refl _) (.int .i64 ((low n : Int))) hb1 hb2)
  clear hcs hb1 hb2 hg0 hg1
  go_wp2_with fail
  refine (low_any n hi _).mono ?_
  rintro e2 wl ⟨rfl, q, rfl⟩
  go_wp2_with fail
  refine (irec_one ((low n : Int) - 1) _ _ _ (by omega) (by omega) (cell_boxed _ _)).mono ?_
  rintro e2 w1 ⟨g, cap, rfl, hg0, hg1, hcs, hb1⟩
  go_wp2_with fail
  refine (where_one ((low n : Int) - 1) g cap w1 hg1 hcs).mono ?_
  rw [H2.out]
  rintro e2 w3 ⟨rfl, hb2⟩
  have Hw3 : Hid (Below w.heap.size w w3 ∧ w.heap.size ≤ w3.heap.size) := Lib.hid (below_one (below_drewN Hw2.out.1 q) Hw2.out.2 (.int .i64 ((low n : Int) - 1)) hb1 hb2)
  clear hcs hb1 hb2 hg0 hg1
  go_wp2_with fail
  go_ret
  exact ⟨rfl, Hw3.out.1⟩

set_option maxRecDepth 100000 in
set_option maxHeartbeats 400000 in
theorem exactLow_walk (i : Int) (w0 : (Lit.int .i64 i).wf = true) (w : World) :
    Calls Try.prog 5 #[.int .i64 i] w fun x w' => x = .returned (.bool true) ∧ Below w.heap.size w w' := by
  by_cases h : i < 0
  · go_enter Try.func5, Try.ntmps5
    go_wp2_with fail
    go_ret
    exact ⟨rfl, Below.refl _ _⟩
  · by_cases h2 : 160 ≤ i
    · go_enter Try.func5, Try.ntmps5
      go_wp2_with fail
      go_ret
      exact ⟨rfl, Below.refl _ _⟩
    · obtain ⟨n, rfl⟩ := Int.eq_ofNat_of_zero_le (show 0 ≤ i by omega)
      exact exactLow_in n (by omega) w

end Go.Proofs.Ytbdcpfpoohadaaa
