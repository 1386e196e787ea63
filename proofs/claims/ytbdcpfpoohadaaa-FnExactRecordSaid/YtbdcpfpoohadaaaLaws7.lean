/- The walk of FnExactRecord. -/
import Derived.Test.YtbdcpfpoohadaaaSrec
import Derived.Test.YtbdcpfpoohadaaaEq
namespace Go.Proofs.Ytbdcpfpoohadaaa
open Go.RowKit

theorem below_two (w : World) (o1 o2 : Obj) : Below w.heap.size w ((w.alloc o1).alloc o2) := ((Below.refl _ _).alloc (Nat.le_refl _) _).alloc (by simp) _

/-- What is counted is there in a later world, too. -/
theorem counted_later {w w' : World} {g : Nat} {l : List Int} (hg : g < w.heap.size) (hc : ∀ i, i < 160 → w.cell? ⟨g, i, none⟩ = some (.int .u64 (cnt l i : Int))) (hb : Below w.heap.size w w') :
    ∀ i, i < 160 → w'.cell? ⟨g, i, none⟩ = some (.int .u64 (cnt l i : Int)) := fun i hi => (hb.cell (p := ⟨g, i, none⟩) hg).trans (hc i hi)

set_option maxRecDepth 100000 in
set_option maxHeartbeats 400000 in
theorem exactRecord_big (a0 : Option Addr) (len cap : Nat) (h : 1048576 < len) (hm : len ≤ 9223372036854775807) (w : World) :
    Calls Try.prog 11 #[.slice a0 len cap] w fun e w' => e = .returned (.bool true) ∧ Below w.heap.size w w' := by
  by_cases c1 : 2147483647 < len
  · go_enter Try.func11, Try.ntmps11
    go_wp2_with fail
    go_ret
    exact ⟨rfl, Below.refl _ _⟩
  · go_enter Try.func11, Try.ntmps11
    go_wp2_with fail
    go_ret
    exact ⟨rfl, Below.refl _ _⟩

set_option maxRecDepth 100000 in
set_option maxHeartbeats 400000 in
theorem exactRecord_small (a0 : Option Addr) (len cap : Nat) (zs : List Int) (w : World) (hr : IsRow .i64 w a0 len cap zs) (hm : len ≤ 1048576) :
    Calls Try.prog 11 #[.slice a0 len cap] w fun e w' => e = .returned (.bool true) ∧ Below w.heap.size w w' := by
  have HR := Lib.hid hr
  clear hr
  go_enter Try.func11, Try.ntmps11
  go_wp2_with fail
  refine (irec_row a0 len cap zs w HR.out (by omega)).mono ?_
  rintro e w1 ⟨g1, cp1, rfl, hg0, hg1, hcs1, hb1⟩
  have H1 := Lib.hid hcs1
  have R1 := Lib.hid (row_below HR.out hb1)
  clear hcs1
  go_wp2_with fail
  refine (srec_row a0 len cap zs w1 R1.out (by omega)).mono ?_
  rintro e w2 ⟨g2, cp2, rfl, hg20, hg21, hcs2, hb2⟩
  have hs1 := hb1.size
  have hs2 := hb2.size
  have H1' := Lib.hid (counted_later hg1 H1.out hb2)
  have H2 := Lib.hid hcs2
  have HB : Hid (Below w.heap.size w w2) := Lib.hid (hb1.trans (hb2.mono hs1))
  have l1 : g1 < w2.heap.size := by omega
  have l2 : w.heap.size ≤ w2.heap.size := by omega
  clear hcs2 hb1 hb2 hg0 hg1 hg20 hs1 hs2
  go_wp2_with fail
  refine (equal_same g1 g2 cp1 cp2 (cnt (zs.take len)) _ (Lib.hid (counted_later l1 H1'.out (below_two w2 _ _))) (Lib.hid (counted_later hg21 H2.out (below_two w2 _ _)))).mono ?_
  rintro e w3 ⟨rfl, n, rfl⟩
  go_wp2_with fail
  go_ret
  exact ⟨rfl, below_drewN (HB.out.trans ((below_two w2 _ _).mono l2)) n⟩

theorem exactRecord_walk (a0 : Option Addr) (len cap : Nat) (zs : List Int) (w : World) (hr : IsRow .i64 w a0 len cap zs) :
    Calls Try.prog 11 #[.slice a0 len cap] w fun e w' => e = .returned (.bool true) ∧ Below w.heap.size w w' := by
  by_cases h : 1048576 < len
  · exact exactRecord_big a0 len cap h (row_le hr) w
  · exact exactRecord_small a0 len cap zs w hr (by omega)
end Go.Proofs.Ytbdcpfpoohadaaa
