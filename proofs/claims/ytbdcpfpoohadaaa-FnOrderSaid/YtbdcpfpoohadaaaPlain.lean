/- The plain law of the buckets: which durations a cell counts. No program in sight. -/
import Derived.Test.YtbdcpfpoohadaaaIdx
namespace Go.Proofs.Ytbdcpfpoohadaaa

/-- The least duration of bucket i (and of what is beyond: i = 160). -/
def low (i : Nat) : Nat := if i < 4 then i * 64 else 2 ^ (i / 4 + 7) + i % 4 * 2 ^ (i / 4 + 5)

/-- The number that Where answers of a single duration. -/
def wh (d : Int) : Int := if idx d = 160 then -1 else if idx d = 161 then 160 else idx d

theorem low_step : ∀ i, i < 160 → low i < low (i + 1) := by decide +kernel
theorem low_160 : low 160 = 140737488355328 := by decide +kernel
theorem low_near : ∀ i, i < 160 → 4 ≤ i → low (i + 1) - low i ≤ low i / 4 := by decide +kernel

theorem low_mono (i j : Nat) (h : i ≤ j) (hj : j ≤ 160) : low i ≤ low j := by
  induction j with
  | zero => rw [show i = 0 by omega]; exact Nat.le_refl _
  | succ j ih =>
    by_cases e : i = j + 1
    · rw [e]; exact Nat.le_refl _
    · have := ih (by omega) (by omega)
      have := low_step j (by omega)
      omega

theorem low_le_max (i : Nat) (h : i ≤ 160) : low i ≤ 140737488355328 := by
  have := low_mono i 160 h (Nat.le_refl _)
  rw [low_160] at this
  exact this

theorem bitLen_bounds (n : Nat) (h : n < 18446744073709551616) (h0 : n ≠ 0) : 1 ≤ Lib.bitLen n ∧ 2 ^ (Lib.bitLen n - 1) ≤ n ∧ n < 2 ^ Lib.bitLen n :=
  Lib.bitLenAux_bounds 64 n h h0

/-- Where a duration that is not negative is counted. -/
theorem idx_spec (n : Nat) (h : n < 18446744073709551616) : (idx n < 160 ∧ low (idx n) ≤ n ∧ n < low (idx n + 1)) ∨ (idx n = 161 ∧ 140737488355328 ≤ n) := by
  have hn : ¬ (n : Int) < 0 := by omega
  by_cases h0 : n = 0
  · subst h0
    exact .inl (by decide +kernel)
  obtain ⟨a, b, c⟩ := bitLen_bounds n h h0
  by_cases c2 : Lib.bitLen n < 9
  · have e : idx n = n / 64 % 4 := by unfold idx; rw [Int.toNat_natCast, if_neg hn, if_pos c2]
    have h1 : n < 256 := by
      have : 2 ^ Lib.bitLen n ≤ 2 ^ 8 := Nat.pow_le_pow_right (by omega) (by omega)
      omega
    rw [e]
    refine .inl ⟨by omega, ?_, ?_⟩
    · unfold low; rw [if_pos (by omega)]; omega
    · unfold low
      by_cases h3 : n / 64 % 4 = 3
      · rw [h3, if_neg (by omega)]; omega
      · rw [if_pos (by omega)]; omega
  · by_cases c3 : 48 ≤ Lib.bitLen n
    · have e : idx n = 161 := by unfold idx; rw [Int.toNat_natCast, if_neg hn, if_neg c2, if_pos c3]
      have : 2 ^ 47 ≤ 2 ^ (Lib.bitLen n - 1) := Nat.pow_le_pow_right (by omega) (by omega)
      exact .inr ⟨e, by omega⟩
    · have e : idx n = (Lib.bitLen n - 8) * 4 + n / 2 ^ (Lib.bitLen n - 3) % 4 := by
        unfold idx; rw [Int.toNat_natCast, if_neg hn, if_neg c2, if_neg c3]
      rw [e]
      generalize Lib.bitLen n = L at a b c c2 c3
      obtain ⟨m, rfl⟩ : ∃ m, L = m + 3 := ⟨L - 3, by omega⟩
      rw [show m + 3 - 1 = m + 2 by omega] at b
      rw [show m + 3 - 3 = m by omega, show m + 3 - 8 = m - 5 by omega]
      have hp : 0 < 2 ^ m := Nat.two_pow_pos m
      have e2 : 2 ^ (m + 2) = 4 * 2 ^ m := by rw [Nat.pow_add]; omega
      have e3 : 2 ^ (m + 3) = 8 * 2 ^ m := by rw [Nat.pow_add]; omega
      have q4 : 4 ≤ n / 2 ^ m := (Nat.le_div_iff_mul_le hp).2 (by omega)
      have q8 : n / 2 ^ m < 8 := (Nat.div_lt_iff_lt_mul hp).2 (by omega)
      have hq1 := Nat.div_mul_le_self n (2 ^ m)
      have hq2 : n < (n / 2 ^ m + 1) * 2 ^ m := by
        have := Nat.div_add_mod n (2 ^ m)
        have h3 := Nat.mod_lt n hp
        rw [Nat.add_mul, Nat.mul_comm (n / 2 ^ m)]
        omega
      generalize n / 2 ^ m = q at *
      obtain ⟨s, rfl⟩ : ∃ s, q = 4 + s := ⟨q - 4, by omega⟩
      rw [show (4 + s) % 4 = s by omega]
      have f : ∀ t, t < 4 → low ((m - 5) * 4 + t) = (4 + t) * 2 ^ m := by
        intro t ht
        unfold low
        rw [if_neg (by omega), show ((m - 5) * 4 + t) / 4 + 7 = m + 2 by omega, show ((m - 5) * 4 + t) / 4 + 5 = m by omega, show ((m - 5) * 4 + t) % 4 = t by omega, e2, Nat.add_mul]
      refine .inl ⟨by omega, by rw [f s (by omega)]; exact hq1, ?_⟩
      by_cases hs : s = 3
      · have : low ((m - 5) * 4 + s + 1) = 8 * 2 ^ m := by
          unfold low
          rw [if_neg (by omega), show ((m - 5) * 4 + s + 1) / 4 + 7 = m + 3 by omega, show ((m - 5) * 4 + s + 1) % 4 = 0 by omega, e3]
          omega
        rw [this, ← e3]; exact c
      · rw [show (m - 5) * 4 + s + 1 = (m - 5) * 4 + (s + 1) by omega, f (s + 1) (by omega)]
        exact hq2

theorem idx_neg (d : Int) (h : d < 0) : idx d = 160 := by unfold idx; rw [if_pos h]

/-- What Where answers, by cases. -/
theorem wh_spec (d : Int) (h1 : d ≤ 9223372036854775807) : (d < 0 ∧ wh d = -1) ∨ (140737488355328 ≤ d ∧ wh d = 160) ∨ (∃ m : Nat, m < 160 ∧ wh d = m ∧ (low m : Int) ≤ d ∧ d < (low (m + 1) : Int)) := by
  by_cases hd : d < 0
  · exact .inl ⟨hd, by unfold wh; rw [if_pos (idx_neg d hd)]⟩
  · obtain ⟨n, rfl⟩ := Int.eq_ofNat_of_zero_le (show 0 ≤ d by omega)
    rcases idx_spec n (by omega) with ⟨a, b, c⟩ | ⟨a, b⟩
    · exact .inr (.inr ⟨idx n, a, by unfold wh; rw [if_neg (by omega), if_neg (by omega)], by omega, by omega⟩)
    · exact .inr (.inl ⟨by omega, by unfold wh; rw [if_neg (by omega), if_pos a]⟩)

theorem wh_of (d : Int) (m : Nat) (hm : m < 160) (h1 : d ≤ 9223372036854775807) (ha : (low m : Int) ≤ d) (hb : d < (low (m + 1) : Int)) : wh d = m := by
  rcases wh_spec d h1 with ⟨a, _⟩ | ⟨a, _⟩ | ⟨k, hk, e, a, b⟩
  · omega
  · have := low_le_max (m + 1) (by omega)
    omega
  · have : k = m := by
      rcases Nat.lt_trichotomy k m with h | h | h
      · have := low_mono (k + 1) m (by omega) (by omega); omega
      · exact h
      · have := low_mono (m + 1) k (by omega) (by omega); omega
    rw [e, this]

theorem wh_neg (d : Int) (h : d < 0) : wh d = -1 := by unfold wh; rw [if_pos (idx_neg d h)]
theorem wh_beyond (d : Int) (h : 140737488355328 ≤ d) (h1 : d ≤ 9223372036854775807) : wh d = 160 := by
  rcases wh_spec d h1 with ⟨a, _⟩ | ⟨_, e⟩ | ⟨k, hk, e, a, b⟩
  · omega
  · exact e
  · have := low_le_max (k + 1) (by omega); omega

/-- FnExactLow's law. -/
theorem wh_low (i : Nat) (hi : i < 160) : wh (low i) = i := by
  have := low_step i hi
  have := low_le_max (i + 1) (by omega)
  exact wh_of _ i hi (by omega) (by omega) (by omega)
theorem wh_low_pred (i : Nat) (hi : i < 160) : wh ((low i : Int) - 1) = (i : Int) - 1 := by
  by_cases h0 : i = 0
  · subst h0; rw [show low 0 = 0 from rfl]; exact wh_neg _ (by omega)
  · obtain ⟨j, rfl⟩ : ∃ j, i = j + 1 := ⟨i - 1, by omega⟩
    have := low_step j (by omega)
    have := low_le_max (j + 1) (by omega)
    rw [wh_of _ j (by omega) (by omega) (by omega) (by omega)]
    omega

/-- FnMonotone's law. -/
theorem wh_mono (d e : Int) (hd : d ≤ 9223372036854775807) (he : e ≤ 9223372036854775807) (h : d ≤ e) : wh d ≤ wh e := by
  rcases wh_spec d hd with ⟨a, x⟩ | ⟨a, x⟩ | ⟨k, hk, x, a, b⟩ <;> rcases wh_spec e he with ⟨a', y⟩ | ⟨a', y⟩ | ⟨k', hk', y, a', b'⟩ <;> try omega
  · have := low_le_max (k' + 1) (by omega); omega
  · by_cases hlt : k' < k
    · have := low_mono (k' + 1) k (by omega) (by omega); omega
    · omega

theorem low_4 : low 4 = 256 := rfl
/-- FnNear's law. -/
theorem wh_near (d e : Int) (hd : d ≤ 9223372036854775807) (he : e ≤ 9223372036854775807) (h : wh d = wh e) (h0 : 0 ≤ wh d) (h1 : wh d < 160) (h2 : 256 ≤ d) (h3 : 256 ≤ e) : max d e - min d e < (min d e + 3) / 4 := by
  rcases wh_spec d hd with ⟨a, x⟩ | ⟨a, x⟩ | ⟨k, hk, x, a, b⟩ <;> rcases wh_spec e he with ⟨a', y⟩ | ⟨a', y⟩ | ⟨k', hk', y, a', b'⟩ <;> try omega
  obtain rfl : k = k' := by omega
  have hk4 : 4 ≤ k := by
    by_cases hlt : k < 4
    · have := low_mono (k + 1) 4 (by omega) (by omega)
      rw [low_4] at this
      omega
    · omega
  have := low_near k hk hk4
  have := low_step k hk
  omega
end Go.Proofs.Ytbdcpfpoohadaaa
