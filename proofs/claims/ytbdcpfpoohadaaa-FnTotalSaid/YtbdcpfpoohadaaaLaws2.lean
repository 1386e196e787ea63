/- The walk of FnTotal. -/
import Derived.Test.YtbdcpfpoohadaaaArg
import Derived.Test.YtbdcpfpoohadaaaTot
namespace Go.Proofs.Ytbdcpfpoohadaaa
open Go.RowKit

theorem below_alloc' {B : Nat} {w : World} (hB : B ≤ w.heap.size) (o : Obj) : Below B w (w.alloc o) := (Below.refl _ _).alloc hB _

set_option maxRecDepth 100000 in
set_option maxHeartbeats 400000 in
theorem total_walk (a0 : Option Addr) (len cap : Nat) (zs : List Int) (w : World) (hr : IsRow .i64 w a0 len cap zs) (hm : len ≤ 9223372036854775807) :
    Calls Try.prog 9 #[.slice a0 len cap] w fun e w' => e = .returned (.bool true) ∧ Below w.heap.size w w' := by
  by_cases h31 : 2147483647 < len
  · go_enter Try.func9, Try.ntmps9
    go_wp2_with fail
    go_ret
    exact ⟨rfl, Below.refl _ _⟩
  by_cases h20 : 1048576 < len
  · go_enter Try.func9, Try.ntmps9
    go_wp2_with fail
    go_ret
    exact ⟨rfl, Below.refl _ _⟩
  have hc := irec_row a0 len cap zs w hr (by omega)
  have hl := row_length hr
  generalize zs.take len = l at hc hl
  have HC := Lib.hid hc
  have HL := Lib.hid hl
  clear hc hl hr
  go_enter Try.func9, Try.ntmps9
  go_wp2_with fail
  refine HC.out.mono ?_
  rintro e w1 ⟨g, cp, rfl, hg0, hg1, hcs, hb1⟩
  have HS := Lib.hid hcs
  clear hcs
  have hsum : cnt l 160 + cnt l 161 ≤ len := by
    have := tot_le l 0
    rw [tot_zero, HL.out] at this
    exact this
  go_wp2_with fail
  go_loop [4, 23] (fun n i => ∃ k : Nat, k ≤ 160 ∧ i = .int .i64 k ∧ n = .int .u64 (tot l k : Int)) (fun _ i => 160 - (intOf i).toNat)
  case atStart => exact ⟨0, Nat.zero_le _, rfl, by rw [tot_zero]; rfl⟩
  case round =>
    obtain ⟨k, hk, rfl, rfl⟩ := hrel
    clear hsum
    by_cases hlt : k < 160
    · have hck := HS.out k hlt
      have hts := tot_succ l k hlt
      have hsum : tot l k + cnt l k ≤ len := by
        have := tot_le l (k + 1)
        rw [hts, HL.out] at this
        exact this
      have HT := Lib.hid hts
      clear hts
      go_wp2_with fail
      go_round
      case rel => exact ⟨k + 1, by omega, by go_num, by rw [HT.out]; go_num⟩
      case measure => simp [intOf]; omega
    · obtain rfl : k = 160 := by omega
      clear hlt
      have hT : tot l 160 = len := by rw [tot_all]; exact HL.out
      go_wp2_with fail
      go_ret
      exact ⟨rfl, hb1.trans (below_alloc' hb1.size _)⟩
end Go.Proofs.Ytbdcpfpoohadaaa
