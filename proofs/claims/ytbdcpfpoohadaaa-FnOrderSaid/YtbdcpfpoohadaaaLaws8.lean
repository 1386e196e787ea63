/- The walk of FnOrder. -/
import Derived.Test.YtbdcpfpoohadaaaPerm
import Derived.Test.YtbdcpfpoohadaaaEq
namespace Go.Proofs.Ytbdcpfpoohadaaa
open Go.RowKit

/-- What is counted is there in a later world, too. -/
theorem counts_kept {w w' : World} {B g : Nat} {l : List Int} (hg : g < w.heap.size) (hB : w.heap.size ≤ B) (hc : ∀ i, i < 160 → w.cell? ⟨g, i, none⟩ = some (.int .u64 (cnt l i : Int))) (hb : Below B w w') :
    ∀ i, i < 160 → w'.cell? ⟨g, i, none⟩ = some (.int .u64 (cnt l i : Int)) := fun i hi => (hb.cell (p := ⟨g, i, none⟩) (by simp; omega)).trans (hc i hi)

theorem below_three (w : World) (o1 o2 o3 : Obj) : Below w.heap.size w (((w.alloc o1).alloc o2).alloc o3) := (((Below.refl _ _).alloc (Nat.le_refl _) _).alloc (by simp) _).alloc (by simp; omega) _

set_option maxRecDepth 100000 in
set_option maxHeartbeats 400000 in
theorem order_big (a0 : Option Addr) (len cap : Nat) (h : 1048576 < len) (hm : len ≤ 9223372036854775807) (w : World) :
    Calls Try.prog 13 #[.slice a0 len cap] w fun e w' => e = .returned (.bool true) ∧ Below w.heap.size w w' := by
  by_cases c1 : 2147483647 < len
  · go_enter Try.func13, Try.ntmps13
    go_wp2_with fail
    go_ret
    exact ⟨rfl, Below.refl _ _⟩
  · go_enter Try.func13, Try.ntmps13
    go_wp2_with fail
    go_ret
    exact ⟨rfl, Below.refl _ _⟩

set_option maxRecDepth 100000 in
set_option maxHeartbeats 1000000 in
theorem order_small (a0 : Option Addr) (len cap : Nat) (zs : List Int) (w : World) (hr : IsRow .i64 w a0 len cap zs) (hm : len ≤ 1048576) :
    Calls Try.prog 13 #[.slice a0 len cap] w fun e w' => e = .returned (.bool true) ∧ Below w.heap.size w w' := by
  have hlen := row_length hr
  have HM := Lib.hid (row_mem hr)
  have HR := Lib.hid hr
  obtain ⟨l, hl⟩ : ∃ l, l = zs.take len := ⟨_, rfl⟩
  rw [← hl] at hlen HM
  have HL := Lib.hid hl
  have HN := Lib.hid hlen
  clear hr hl hlen
  go_enter Try.func13, Try.ntmps13
  go_wp2_with fail
  refine (clone_row a0 len cap zs w HR.out (by omega)).mono ?_
  rw [← HL.out]
  rintro e w1 ⟨v1, rfl, ho1, hb1⟩
  have O1 := Lib.hid ho1
  have B1 := Lib.hid hb1
  clear ho1 hb1
  go_wp2_with fail
  refine (reverse_own v1 l w1 _ O1.out (by rw [HN.out]; omega)).mono ?_
  rintro e w2 ⟨rfl, ho2, hb2⟩
  have O2 := Lib.hid ho2
  have B2 : Hid (Below w.heap.size w w2) := Lib.hid (B1.out.trans hb2)
  clear ho2 hb2
  go_wp2_with fail
  refine (clone_row a0 len cap zs w2 (row_below HR.out B2.out) (by omega)).mono ?_
  rw [← HL.out]
  rintro e w3 ⟨v2, rfl, ho3, hb3⟩
  have O3 := Lib.hid ho3
  have B3 := Lib.hid hb3
  clear ho3 hb3
  go_wp2_with fail
  refine (sort_own v2 l w3 _ O3.out (by rw [HN.out]; omega) B3.out.size).mono ?_
  rintro e w4 ⟨rfl, ho4, hb4⟩
  have O4 := Lib.hid ho4
  have B4 : Hid (Below w2.heap.size w2 w4) := Lib.hid (B3.out.trans hb4)
  have B04 : Hid (Below w.heap.size w w4) := Lib.hid (B2.out.trans (B4.out.mono B2.out.size))
  have O24 := Lib.hid (own_kept O2.out B4.out (Nat.le_refl _))
  clear ho4 hb4
  go_wp2_with fail
  refine (irec_row a0 len cap zs w4 (row_below HR.out B04.out) (by omega)).mono ?_
  rw [← HL.out]
  rintro e w5 ⟨g1, cp1, rfl, hg1, hg1', hc1, hb5⟩
  have C1 := Lib.hid hc1
  have B5 := Lib.hid hb5
  clear hc1 hb5
  go_wp2_with fail
  refine ((irec_own2 v1 l.reverse w5 _ (own_kept O24.out B5.out (Nat.le_refl _)) (by rw [List.length_reverse, HN.out]; omega) (fun z hz => HM.out z (List.mem_reverse.1 hz))).mono fun _ _ => countedS_congr (cnt_perm (List.reverse_perm l))).mono ?_
  rintro e w6 ⟨g2, cp2, rfl, hg2, hg2', hc2, hb6⟩
  have C2 := Lib.hid hc2
  have B6 := Lib.hid hb6
  have B46 : Hid (Below w4.heap.size w4 w6) := Lib.hid (B5.out.trans (hb6.mono B5.out.size))
  clear hc2 hb6
  go_wp2_with fail
  refine ((irec_own2 v2 _ w6 _ (own_kept O4.out B46.out (Nat.le_refl _)) (by rw [List.length_mergeSort, HN.out]; omega) (fun z hz => HM.out z ((List.mergeSort_perm l _).mem_iff.1 hz))).mono fun _ _ => countedS_congr (cnt_perm (List.mergeSort_perm l _))).mono ?_
  rintro e w7 ⟨g3, cp3, rfl, hg3, hg3', hc3, hb7⟩
  have C3 := Lib.hid hc3
  have s5 := B5.out.size
  have s6 := B6.out.size
  have s7 := hb7.size
  have s04 := B04.out.size
  have C1' := Lib.hid (counts_kept hg1' (Nat.le_refl _) C1.out (B6.out.trans (hb7.mono s6)))
  have C2' := Lib.hid (counts_kept hg2' (Nat.le_refl _) C2.out hb7)
  have B07 : Hid (Below w.heap.size w w7) := Lib.hid ((B04.out.trans (B46.out.mono s04)).trans (hb7.mono (by omega)))
  have l1 : g1 < w7.heap.size := by omega
  have l2 : g2 < w7.heap.size := by omega
  have l0 : w.heap.size ≤ w7.heap.size := by omega
  clear hc3 hb7 hg1 hg1' hg2 hg2' hg3 s5 s6 s7 s04
  go_wp2_with fail
  refine (equal_same g1 g2 cp1 cp2 (cnt l) _ (Lib.hid (counts_kept l1 (Nat.le_refl _) C1'.out (below_three w7 _ _ _))) (Lib.hid (counts_kept l2 (Nat.le_refl _) C2'.out (below_three w7 _ _ _)))).mono ?_
  rintro e w8 ⟨rfl, n, rfl⟩
  go_wp2_with fail
  refine (equal_same g1 g3 cp1 cp3 (cnt l) _ (Lib.hid (counts_kept l1 (Nat.le_refl _) C1'.out (below_drewN (below_three w7 _ _ _) n))) (Lib.hid (counts_kept hg3' (Nat.le_refl _) C3.out (below_drewN (below_three w7 _ _ _) n)))).mono ?_
  rintro e w9 ⟨rfl, n2, rfl⟩
  go_wp2_with fail
  go_ret
  exact ⟨rfl, below_drewN (B07.out.trans ((below_three w7 _ _ _).mono l0)) _⟩

theorem order_walk (a0 : Option Addr) (len cap : Nat) (zs : List Int) (w : World) (hr : IsRow .i64 w a0 len cap zs) :
    Calls Try.prog 13 #[.slice a0 len cap] w fun e w' => e = .returned (.bool true) ∧ Below w.heap.size w w' := by
  by_cases h : 1048576 < len
  · exact order_big a0 len cap h (row_le hr) w
  · exact order_small a0 len cap zs w hr (by omega)
end Go.Proofs.Ytbdcpfpoohadaaa
