/- slices.Equal of two rows of counts that are the same. -/
import Derived.Test.YtbdcpfpoohadaaaLow
import Derived.Test.YtbdcpfpoohadaaaArg
namespace Go.Proofs.Ytbdcpfpoohadaaa
open Go.RowKit

set_option maxRecDepth 100000 in
set_option maxHeartbeats 400000 in
theorem equal_same (g1 g2 c1 c2 : Nat) (f : Nat → Nat) (w : World) (h1 : Hid (∀ i, i < 160 → w.cell? ⟨g1, i, none⟩ = some (.int .u64 (f i : Int)))) (h2 : Hid (∀ i, i < 160 → w.cell? ⟨g2, i, none⟩ = some (.int .u64 (f i : Int)))) :
    Calls Try.prog 21 #[.slice (some ⟨g1, 0, none⟩) 160 c1, .slice (some ⟨g2, 0, none⟩) 160 c2] w (Gives (.bool true) w) := by
  go_enter Try.func21, Try.ntmps21
  go_wp2_with fail
  go_loopw [13] (fun i wr => ∃ k : Nat, k ≤ 160 ∧ i = .int .i64 k ∧ ∃ n, wr = w.drewN n) (fun i _ => 160 - (intOf i).toNat)
  case atStart => exact ⟨0, Nat.zero_le _, rfl, 0, rfl⟩
  case round =>
    obtain ⟨k, hk, rfl, n, rfl⟩ := hrel
    by_cases hlt : k < 160
    · have hx := h1.out k hlt
      have hy := h2.out k hlt
      go_wp2_with fail
      go_quiet (fail)
      go_wp2_with fail
      go_roundw
      case rel => exact ⟨k + 1, by omega, by go_num, _, rfl⟩
      case measure => simp [intOf]; omega
    · obtain rfl : k = 160 := by omega
      clear hlt
      go_wp2_with fail
      go_ret
      exact ⟨rfl, n, rfl⟩
end Go.Proofs.Ytbdcpfpoohadaaa
