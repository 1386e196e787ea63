/- A list of int64s that came in, and impl.Record of it. -/
import Derived.Test.YtbdcpfpoohadaaaIrec
namespace Go.Proofs.Ytbdcpfpoohadaaa
open Go.RowKit

/-- A slice of integers that came in: it is nil, or it leads to a row of 'cap' cells that hold the numbers zs (the first 'len' are its elements), each of which fits its kind. -/
def IsRow (k : IntKind) (w : World) (a : Option Addr) (len cap : Nat) (zs : List Int) : Prop :=
  (a = none ∧ len = 0 ∧ cap = 0 ∧ zs = []) ∨
  ∃ x, a = some x ∧ len ≤ cap ∧ cap ≤ maxLen ∧ zs.length = cap ∧ (∀ i, i < zs.length → w.cell? (x.add i) = some (.int k (zs.getD i 0))) ∧ ∀ n ∈ zs, (Lit.int k n).wf = true

theorem wf_bd {d : Int} (h : (Lit.int .i64 d).wf = true) : -9223372036854775808 ≤ d ∧ d ≤ 9223372036854775807 := by
  simpa [Lit.wf, IntKind.min, IntKind.max, IntKind.signed, IntKind.bits] using h

theorem getD_take (zs : List Int) (n i : Nat) (h : i < n) : (zs.take n).getD i 0 = zs.getD i 0 := by
  simp [List.getD_eq_getElem?_getD, h]

theorem row_length {k : IntKind} {w : World} {a : Option Addr} {len cap : Nat} {zs : List Int} (h : IsRow k w a len cap zs) : (zs.take len).length = len := by
  rcases h with ⟨_, rfl, _, rfl⟩ | ⟨x, _, h1, _, h2, _⟩
  · rfl
  · rw [List.length_take]; omega

theorem row_wf {w : World} {a : Option Addr} {len cap : Nat} {zs : List Int} (h : IsRow .i64 w a len cap zs) (i : Nat) (hi : i < len) : -9223372036854775808 ≤ zs.getD i 0 ∧ zs.getD i 0 ≤ 9223372036854775807 := by
  rcases h with ⟨_, rfl, _, rfl⟩ | ⟨x, _, h1, _, h2, _, h3⟩
  · omega
  · have hlt : i < zs.length := by omega
    have e : zs.getD i 0 = zs[i] := by simp [List.getD_eq_getElem?_getD, hlt]
    rw [e]
    exact wf_bd (h3 _ (List.getElem_mem hlt))

/-- The row is there in a later world, too. -/
theorem row_below {k : IntKind} {w w' : World} {a : Option Addr} {len cap : Nat} {zs : List Int} (h : IsRow k w a len cap zs) (hb : Below w.heap.size w w') : IsRow k w' a len cap zs := by
  rcases h with h | ⟨x, h1, h2, h3, h4, h5, h6⟩
  · exact .inl h
  · exact .inr ⟨x, h1, h2, h3, h4, fun i hi => (hb.cell (cell_lt (h5 i hi))).trans (h5 i hi), h6⟩

theorem row_le {k : IntKind} {w : World} {a : Option Addr} {len cap : Nat} {zs : List Int} (h : IsRow k w a len cap zs) : len ≤ 9223372036854775807 := by
  rcases h with ⟨_, rfl, _, _⟩ | ⟨x, _, h1, h2, _⟩
  · omega
  · unfold maxLen at h2; omega

/-- impl.Record of a list that came in. -/
theorem irec_row (a : Option Addr) (len cap : Nat) (zs : List Int) (w : World) (h : IsRow .i64 w a len cap zs) (hlen : len ≤ 1000000000) :
    Calls Try.prog 15 #[.slice a len cap] w (CountedS w (zs.take len)) := by
  have hw := row_wf h
  have hl := row_length h
  rcases h with ⟨rfl, rfl, rfl, rfl⟩ | ⟨x, rfl, h1, _, h2, h3, _⟩
  · exact irec_nil w
  · refine irec_len x cap len (zs.take len) (Lib.hid hl) w hlen (Lib.hid fun i hi => ?_) (Lib.hid fun i hi => ?_)
    · rw [getD_take _ _ _ hi]; exact h3 i (by omega)
    · rw [getD_take _ _ _ hi]; exact hw i hi
end Go.Proofs.Ytbdcpfpoohadaaa
