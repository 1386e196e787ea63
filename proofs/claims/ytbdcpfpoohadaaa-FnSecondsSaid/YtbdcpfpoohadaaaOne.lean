/- Record and Where of a single duration: the two contracts that the laws on one duration meet. -/
import Derived.Test.YtbdcpfpoohadaaaLow
namespace Go.Proofs.Ytbdcpfpoohadaaa
open Go.RowKit

theorem cnt_one (d : Int) (i : Nat) : cnt [d] i = if idx d = i then 1 else 0 := by
  have := cnt_snoc [] d i
  rw [cnt_nil] at this
  simpa using this

/-- impl.Record of a slice with one duration. -/
theorem irec_one (d : Int) (b : Nat) (cap : Nat) (w : World) (h0 : -9223372036854775808 ≤ d) (h1 : d ≤ 9223372036854775807) (hc : w.cell? ⟨b, 0, none⟩ = some (.int .i64 d)) :
    Calls Try.prog 15 #[.slice (some ⟨b, 0, none⟩) 1 cap] w (CountedS w [d]) :=
  irec_len ⟨b, 0, none⟩ cap 1 [d] (Lib.hid rfl) w (by omega)
    (Lib.hid (fun i hi => by rw [show i = 0 by omega]; exact hc))
    (Lib.hid (fun i hi => by rw [show i = 0 by omega]; exact ⟨h0, h1⟩))

/-- spec.Where of the counts of one duration. -/
theorem where_one (d : Int) (g cap : Nat) (w : World) (hg : g < w.heap.size) (hc : ∀ i, i < 160 → w.cell? ⟨g, i, none⟩ = some (.int .u64 (cnt [d] i : Int))) :
    Calls Try.prog 16 #[.agg #[.slice (some ⟨g, 0, none⟩) 160 cap, .int .u64 (cnt [d] 160 : Int), .int .u64 (cnt [d] 161 : Int)]] w (Found w (wh d)) := by
  have hl := idx_lt d
  by_cases h1 : idx d = 160
  · have e : wh d = -1 := by unfold wh; rw [if_pos h1]
    rw [cnt_one, cnt_one, if_pos h1, if_neg (by omega), e]
    exact where_below g cap w hg (Lib.hid fun i hi => by rw [hc i hi, cnt_one, if_neg (by omega)]; rfl)
  · by_cases h2 : idx d = 161
    · have e : wh d = 160 := by unfold wh; rw [if_neg h1, if_pos h2]
      rw [cnt_one, cnt_one, if_neg h1, if_pos h2, e]
      exact where_beyond g cap w hg (Lib.hid fun i hi => by rw [hc i hi, cnt_one, if_neg (by omega)]; rfl)
    · have e : wh d = idx d := by unfold wh; rw [if_neg h1, if_neg h2]
      rw [cnt_one, cnt_one, if_neg h1, if_neg h2, e]
      exact where_in g cap (idx d) w hg (by omega) (Lib.hid fun i hi => by rw [hc i hi, cnt_one]; split <;> rfl)

theorem wf_bounds {d : Int} (h : (Lit.int .i64 d).wf = true) : -9223372036854775808 ≤ d ∧ d ≤ 9223372036854775807 := by
  simpa [Lit.wf, IntKind.min, IntKind.max, IntKind.signed, IntKind.bits] using h
end Go.Proofs.Ytbdcpfpoohadaaa
