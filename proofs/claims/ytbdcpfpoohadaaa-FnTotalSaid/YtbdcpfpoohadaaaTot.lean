/- FnTotal's law: as many are counted as there are durations. No program in sight. -/
import Derived.Test.YtbdcpfpoohadaaaIdx
namespace Go.Proofs.Ytbdcpfpoohadaaa

/-- How many durations are counted in the two outer cells and in the first k buckets. -/
def tot (l : List Int) (k : Nat) : Nat := l.countP fun d => decide (idx d < k) || (idx d == 160) || (idx d == 161)

theorem cnt_cons (d : Int) (l : List Int) (i : Nat) : cnt (d :: l) i = cnt l i + if idx d = i then 1 else 0 := by
  unfold cnt
  rw [List.countP_cons]
  by_cases h : idx d = i <;> simp [h]

theorem tot_zero (l : List Int) : tot l 0 = cnt l 160 + cnt l 161 := by
  induction l with
  | nil => rfl
  | cons d l ih =>
    rw [cnt_cons, cnt_cons]
    unfold tot at ih ⊢
    rw [List.countP_cons, ih]
    by_cases h1 : idx d = 160
    · simp [h1]; omega
    · by_cases h2 : idx d = 161
      · simp [h2]; omega
      · simp [h1, h2]

theorem tot_succ (l : List Int) (k : Nat) (hk : k < 160) : tot l (k + 1) = tot l k + cnt l k := by
  induction l with
  | nil => rfl
  | cons d l ih =>
    rw [cnt_cons]
    unfold tot at ih ⊢
    rw [List.countP_cons, List.countP_cons, ih]
    by_cases h0 : idx d = k
    · have a1 : ¬ k = 160 := by omega
      have a2 : ¬ k = 161 := by omega
      simp [h0, a1, a2]
      omega
    · by_cases h1 : idx d < k
      · have a : idx d < k + 1 := by omega
        simp [h0, h1, a]
        omega
      · have a : ¬ idx d < k + 1 := by omega
        simp [h0, h1, a]
        omega

theorem tot_le (l : List Int) (k : Nat) : tot l k ≤ l.length := List.countP_le_length

theorem tot_all (l : List Int) : tot l 160 = l.length := by
  unfold tot
  rw [List.countP_eq_length]
  intro d _
  have := idx_lt d
  by_cases h : idx d < 160
  · simp [h]
  · have : idx d = 160 ∨ idx d = 161 := by omega
    rcases this with h1 | h1 <;> simp [h1]
end Go.Proofs.Ytbdcpfpoohadaaa
