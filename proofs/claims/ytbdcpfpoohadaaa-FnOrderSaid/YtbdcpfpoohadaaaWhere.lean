/- The contract of spec.Where at the counts of a single duration. -/
import Derived.Test.YtbdcpfpoohadaaaIrec
namespace Go.Proofs.Ytbdcpfpoohadaaa
open Go.RowKit

/-- What Where answers: a number, true, and old memory is as it was. -/
def Found (w : World) (at_ : Int) (e : Ending) (w' : World) : Prop :=
  e = .returned (.tuple #[.int .i64 at_, .bool true]) ∧ Below w.heap.size w w'

set_option maxRecDepth 100000 in
set_option maxHeartbeats 400000 in
theorem where_below (g cap : Nat) (w : World) (hg : g < w.heap.size) (HC : Hid (∀ i, i < 160 → w.cell? ⟨g, i, none⟩ = some (.int .u64 0))) :
    Calls Try.prog 16 #[.agg #[.slice (some ⟨g, 0, none⟩) 160 cap, .int .u64 1, .int .u64 0]] w (Found w (-1)) := by
  go_enter Try.func16, Try.ntmps16
  go_wp2_with fail
  go_quiet (fail)
  go_wp2_with fail
  go_loop [4, 5, 23] (fun a n i => ∃ k : Nat, k ≤ 160 ∧ i = .int .i64 k ∧ a = .int .i64 (-1) ∧ n = .int .u64 1) (fun _ _ i => 160 - (intOf i).toNat)
  case atStart => exact ⟨0, Nat.zero_le _, rfl, rfl, rfl⟩
  case round =>
    obtain ⟨k, hk, rfl, rfl, rfl⟩ := hrel
    by_cases hlt : k < 160
    · have hck := HC.out k hlt
      go_wp2_with fail
      go_round
      case rel => exact ⟨k + 1, by omega, by go_num, rfl, rfl⟩
      case measure => simp [intOf]; omega
    · obtain rfl : k = 160 := by omega
      clear hlt
      go_wp2_with fail
      go_quiet (fail)
      go_wp2_with fail
      go_ret2
      exact ⟨rfl, below_drewN (below_drewN ((Below.refl _ _).alloc (Nat.le_refl _) _) _) _⟩

set_option maxRecDepth 100000 in
set_option maxHeartbeats 400000 in
theorem where_beyond (g cap : Nat) (w : World) (hg : g < w.heap.size) (HC : Hid (∀ i, i < 160 → w.cell? ⟨g, i, none⟩ = some (.int .u64 0))) :
    Calls Try.prog 16 #[.agg #[.slice (some ⟨g, 0, none⟩) 160 cap, .int .u64 0, .int .u64 1]] w (Found w (160)) := by
  go_enter Try.func16, Try.ntmps16
  go_wp2_with fail
  go_quiet (fail)
  go_wp2_with fail
  go_loop [4, 5, 23] (fun a n i => ∃ k : Nat, k ≤ 160 ∧ i = .int .i64 k ∧ a = .int .i64 (160) ∧ n = .int .u64 1) (fun _ _ i => 160 - (intOf i).toNat)
  case atStart => exact ⟨0, Nat.zero_le _, rfl, rfl, rfl⟩
  case round =>
    obtain ⟨k, hk, rfl, rfl, rfl⟩ := hrel
    by_cases hlt : k < 160
    · have hck := HC.out k hlt
      go_wp2_with fail
      go_round
      case rel => exact ⟨k + 1, by omega, by go_num, rfl, rfl⟩
      case measure => simp [intOf]; omega
    · obtain rfl : k = 160 := by omega
      clear hlt
      go_wp2_with fail
      go_quiet (fail)
      go_wp2_with fail
      go_ret2
      exact ⟨rfl, below_drewN (below_drewN ((Below.refl _ _).alloc (Nat.le_refl _) _) _) _⟩

set_option maxRecDepth 100000 in
set_option maxHeartbeats 400000 in
theorem where_in (g cap m : Nat) (w : World) (hg : g < w.heap.size) (hm : m < 160) (HC : Hid (∀ i, i < 160 → w.cell? ⟨g, i, none⟩ = some (.int .u64 (if m = i then 1 else 0)))) :
    Calls Try.prog 16 #[.agg #[.slice (some ⟨g, 0, none⟩) 160 cap, .int .u64 0, .int .u64 0]] w (Found w m) := by
  go_enter Try.func16, Try.ntmps16
  go_wp2_with fail
  go_loop [4, 5, 23] (fun a n i => ∃ k : Nat, k ≤ 160 ∧ i = .int .i64 k ∧ a = .int .i64 (if m < k then (m : Int) else -2) ∧ n = .int .u64 (if m < k then 1 else 0)) (fun _ _ i => 160 - (intOf i).toNat)
  case atStart => exact ⟨0, Nat.zero_le _, rfl, by simp, by simp⟩
  case round =>
    obtain ⟨k, hk, rfl, ha, hn⟩ := hrel
    by_cases hlt : k < 160
    · have hck := HC.out k hlt
      by_cases h1 : m < k
      · rw [if_pos h1] at ha hn
        rw [if_neg (by omega)] at hck
        subst ha hn
        go_wp2_with fail
        go_round
        case rel => exact ⟨k + 1, by omega, by go_num, by rw [if_pos (by omega)], by rw [if_pos (by omega)]⟩
        case measure => simp [intOf]; omega
      · rw [if_neg h1] at ha hn
        subst ha hn
        by_cases h2 : m = k
        · subst h2
          rw [if_pos rfl] at hck
          clear h1
          go_wp2_with fail
          go_round
          case rel => exact ⟨m + 1, by omega, by go_num, by rw [if_pos (by omega)], by rw [if_pos (by omega)]⟩
          case measure => simp [intOf]; omega
        · rw [if_neg h2] at hck
          go_wp2_with fail
          go_round
          case rel => exact ⟨k + 1, by omega, by go_num, by rw [if_neg (by omega)], by rw [if_neg (by omega)]⟩
          case measure => simp [intOf]; omega
    · obtain rfl : k = 160 := by omega
      rw [if_pos hm] at ha hn
      subst ha hn
      clear hlt
      go_wp2_with fail
      go_quiet (fail)
      go_wp2_with fail
      go_ret2
      exact ⟨rfl, below_drewN ((Below.refl _ _).alloc (Nat.le_refl _) _) _⟩

end Go.Proofs.Ytbdcpfpoohadaaa
