/- The contracts of atomic.Uint64's Add and Load: one cell, of a world in which it is there and may be written. -/
import Derived.Test.YtbdcpfpoohadaaaRows
import Derived.WalkKit
import Derived.WalkSpells
import Derived.WalkLawsBesides
import Derived.Laws.LoneSync
namespace Go.Proofs.Ytbdcpfpoohadaaa
open Go.RowKit

set_option maxHeartbeats 400000 in
theorem add_any (b i : Nat) (x : Int) (w : World) (hx0 : 0 ≤ x) (hx : x < 1000000000000) (h0 : w.cell? ⟨b, i, none⟩ = some (.int .u64 x)) (f0 : w.frozen? ⟨b, i, none⟩ = false) :
    Calls Try.prog 48 #[.pointer (some ⟨b, i, none⟩), .int .u64 1] w fun e w' => e = .returned (.int .u64 (x + 1)) ∧ w.setCell ⟨b, i, none⟩ (.int .u64 (x + 1)) = w' := by
  have hs : ∀ w : World, (Op.intArith .add .u64 x 1).run Try.prog w = .ok (.int .u64 (x + 1)) w := by
    intro w
    have : IntKind.u64.wrap (x + 1) = x + 1 := by simp [IntKind.wrap_u64]; omega
    simp [Op.intArith, this]
  have hadd := run_call_add (P := Try.prog) Try.func56 (by kernel_rfl) (by kernel_rfl) (by kernel_rfl) .u64 (by kernel_rfl) h0 f0 (hs w)
  clear hs
  go_enter Try.func48, Try.ntmps48
  go_wp2
  go_ret
  exact ⟨rfl, rfl⟩

set_option maxHeartbeats 400000 in
theorem load_any (b i : Nat) (x : Int) (w : World) (h0 : w.cell? ⟨b, i, none⟩ = some (.int .u64 x)) :
    Calls Try.prog 32 #[.pointer (some ⟨b, i, none⟩)] w fun e w' => e = .returned (.int .u64 x) ∧ w = w' := by
  have hl := run_call_load (P := Try.prog) Try.func49 (by kernel_rfl) (by kernel_rfl) (by kernel_rfl) .u64 (by kernel_rfl) h0
  go_enter Try.func32, Try.ntmps32
  go_wp2
  go_ret
  exact ⟨rfl, rfl⟩
end Go.Proofs.Ytbdcpfpoohadaaa
