/- The cell of the histogram in which a duration is counted, as a plain function: no program in sight. -/
import Derived.Lib.BitFns
import Derived.Lib.ItoaNum
namespace Go.Proofs.Ytbdcpfpoohadaaa

/-- The number of the cell that counts d: 0 .. 159 the buckets, 160 below, 161 beyond. -/
def idx (d : Int) : Nat :=
  if d < 0 then 160
  else if Lib.bitLen d.toNat < 9 then d.toNat / 64 % 4
  else if 48 ≤ Lib.bitLen d.toNat then 161
  else (Lib.bitLen d.toNat - 8) * 4 + d.toNat / 2 ^ (Lib.bitLen d.toNat - 3) % 4

theorem idx_lt (d : Int) : idx d < 162 := by
  unfold idx
  split
  · omega
  · split
    · omega
    · split <;> omega

theorem bitLen_le63 (d : Int) (h1 : d ≤ 9223372036854775807) : Lib.bitLen d.toNat ≤ 63 :=
  Lib.bitLen_le d.toNat 63 (by omega) (by omega)

/-- How many of the durations are counted in cell i. -/
def cnt (l : List Int) (i : Nat) : Nat := l.countP fun d => idx d == i

theorem cnt_nil (i : Nat) : cnt [] i = 0 := rfl
theorem cnt_snoc (l : List Int) (d : Int) (i : Nat) : cnt (l ++ [d]) i = cnt l i + if idx d = i then 1 else 0 := by
  unfold cnt
  rw [List.countP_append]
  by_cases h : idx d = i <;> simp [h]
theorem cnt_le (l : List Int) (i : Nat) : cnt l i ≤ l.length := List.countP_le_length
end Go.Proofs.Ytbdcpfpoohadaaa
