/- The contract of the histogram's method record: one count more in the cell that counts the duration, all else as it was. -/
import Derived.Test.YtbdcpfpoohadaaaAtom
import Derived.Test.YtbdcpfpoohadaaaIdx
import Derived.Test.YtbdcpfpoohadaaaShelf
import Derived.Lib.Hide
namespace Go.Proofs.Ytbdcpfpoohadaaa
open Go.RowKit

/-- Block b is a histogram whose cells hold the counts c. -/
def Hist (w : World) (b : Nat) (c : Nat → Nat) : Prop :=
  ∀ i, i < 162 → w.cell? ⟨b, i, none⟩ = some (.int .u64 (c i : Int)) ∧ w.frozen? ⟨b, i, none⟩ = false

set_option maxHeartbeats 400000 in
theorem record_neg (b : Nat) (d : Int) (c : Nat → Nat) (w : World) (hd : d < 0) (hc : c 160 < 1000000000000) (h : Hist w b c) :
    Calls Try.prog 31 #[.pointer (some ⟨b, 0, none⟩), .int .i64 d] w fun e w' => e = .returned (.tuple #[]) ∧ w.setCell ⟨b, 160, none⟩ (.int .u64 ((c 160 : Int) + 1)) = w' := by
  have h1 := (h 160 (by omega)).1
  have h2 := (h 160 (by omega)).2
  clear h
  go_enter Try.func31, Try.ntmps31
  go_wp2_with (go_at_call 48; refine (add_any _ _ _ _ (by omega) (by omega) h1 h2).mono ?_; rintro e w' ⟨rfl, rfl⟩)
  refine bodyPost_ret (results_none rfl _ _ _) rfl ?_
  exact ⟨rfl, rfl⟩

set_option maxHeartbeats 400000 in
theorem record_low (b : Nat) (d : Int) (c : Nat → Nat) (w : World) (hd : 0 ≤ d) (hd1 : d ≤ 9223372036854775807) (hl : Lib.bitLen d.toNat < 9) (hc : c (d.toNat / 64 % 4) < 1000000000000) (h : Hist w b c) :
    Calls Try.prog 31 #[.pointer (some ⟨b, 0, none⟩), .int .i64 d] w fun e w' => e = .returned (.tuple #[]) ∧ w.setCell ⟨b, d.toNat / 64 % 4, none⟩ (.int .u64 ((c (d.toNat / 64 % 4) : Int) + 1)) = w' := by
  obtain ⟨n, rfl⟩ := Int.eq_ofNat_of_zero_le hd
  rw [Int.toNat_natCast] at *
  have h1 := (h (n / 64 % 4) (by omega)).1
  have h2 := (h (n / 64 % 4) (by omega)).2
  clear h
  go_enter Try.func31, Try.ntmps31
  go_wp2_with (go_at_call 45; refine (Try.bits_Len64 _ _ (by omega) (by omega)).mono ?_; rintro e w' ⟨rfl, rfl⟩)
  go_wp2_with (go_at_call 48; refine (add_any _ _ _ _ (by omega) (by omega) h1 h2).mono ?_; rintro e w' ⟨rfl, rfl⟩)
  go_end0
  exact ⟨rfl, rfl⟩

set_option maxHeartbeats 400000 in
theorem record_high (b : Nat) (d : Int) (c : Nat → Nat) (w : World) (hd : 0 ≤ d) (hd1 : d ≤ 9223372036854775807) (hl : 48 ≤ Lib.bitLen d.toNat) (hc : c 161 < 1000000000000) (h : Hist w b c) :
    Calls Try.prog 31 #[.pointer (some ⟨b, 0, none⟩), .int .i64 d] w fun e w' => e = .returned (.tuple #[]) ∧ w.setCell ⟨b, 161, none⟩ (.int .u64 ((c 161 : Int) + 1)) = w' := by
  have hl2 := bitLen_le63 d hd1
  obtain ⟨n, rfl⟩ := Int.eq_ofNat_of_zero_le hd
  rw [Int.toNat_natCast] at *
  have h1 := (h 161 (by omega)).1
  have h2 := (h 161 (by omega)).2
  clear h
  go_enter Try.func31, Try.ntmps31
  go_wp2_with (first
    | (go_at_call 45; refine (Try.bits_Len64 _ _ (by omega) (by omega)).mono ?_; rintro e w' ⟨rfl, rfl⟩)
    | (go_at_call 48; refine (add_any _ _ _ _ (by omega) (by omega) h1 h2).mono ?_; rintro e w' ⟨rfl, rfl⟩))
  refine bodyPost_ret (results_none rfl _ _ _) rfl ?_
  exact ⟨rfl, rfl⟩

set_option maxHeartbeats 400000 in
theorem record_mid_q (b n L q : Nat) (c : Nat → Nat) (w : World) (hd1 : (n : Int) ≤ 9223372036854775807) (hl : 9 ≤ L) (hl2 : L < 48) (HL : Hid (L = Lib.bitLen n)) (hq : (n : Int) / 2 ^ (L - 1 - 2) = (q : Int)) (hq1 : (q : Int) ≤ 9223372036854775807)
    (hc : c ((L - 9 + 1) * 4 + q % 4) < 1000000000000) (h : Hist w b c) :
    Calls Try.prog 31 #[.pointer (some ⟨b, 0, none⟩), .int .i64 n] w fun e w' => e = .returned (.tuple #[]) ∧
      w.setCell ⟨b, (L - 9 + 1) * 4 + q % 4, none⟩ (.int .u64 ((c ((L - 9 + 1) * 4 + q % 4) : Int) + 1)) = w' := by
  have h1 := (h ((L - 9 + 1) * 4 + q % 4) (by omega)).1
  have h2 := (h ((L - 9 + 1) * 4 + q % 4) (by omega)).2
  clear h
  go_enter Try.func31, Try.ntmps31
  go_wp2_with (go_at_call 45; refine (Try.bits_Len64 _ _ (by omega) (by omega)).mono ?_; rw [show (n : Int).toNat = n from rfl, ← HL.out]; rintro e w' ⟨rfl, rfl⟩)
  go_wp2_with (go_at_call 48; refine (add_any _ _ _ _ (by omega) (by omega) h1 h2).mono ?_; rintro e w' ⟨rfl, rfl⟩)
  go_end0
  exact ⟨rfl, rfl⟩

/-- record: one count more in cell idx d. -/
theorem record_any (b : Nat) (d : Int) (c : Nat → Nat) (w : World) (hd0 : -9223372036854775808 ≤ d) (hd1 : d ≤ 9223372036854775807) (hc : ∀ i, c i < 1000000000000) (h : Hist w b c) :
    Calls Try.prog 31 #[.pointer (some ⟨b, 0, none⟩), .int .i64 d] w fun e w' => e = .returned (.tuple #[]) ∧ w.setCell ⟨b, idx d, none⟩ (.int .u64 ((c (idx d) : Int) + 1)) = w' := by
  by_cases c1 : d < 0
  · have e : idx d = 160 := by unfold idx; rw [if_pos c1]
    rw [e]
    exact record_neg b d c w c1 (hc _) h
  · by_cases c2 : Lib.bitLen d.toNat < 9
    · have e : idx d = d.toNat / 64 % 4 := by unfold idx; rw [if_neg c1, if_pos c2]
      rw [e]
      exact record_low b d c w (by omega) hd1 c2 (hc _) h
    · by_cases c3 : 48 ≤ Lib.bitLen d.toNat
      · have e : idx d = 161 := by unfold idx; rw [if_neg c1, if_neg c2, if_pos c3]
        rw [e]
        exact record_high b d c w (by omega) hd1 c3 (hc _) h
      · obtain ⟨n, rfl⟩ := Int.eq_ofNat_of_zero_le (show 0 ≤ d by omega)
        rw [Int.toNat_natCast] at *
        have e : idx n = (Lib.bitLen n - 9 + 1) * 4 + n / 2 ^ (Lib.bitLen n - 1 - 2) % 4 := by
          unfold idx
          rw [Int.toNat_natCast, if_neg c1, if_neg c2, if_neg c3, show Lib.bitLen n - 9 + 1 = Lib.bitLen n - 8 by omega, show Lib.bitLen n - 1 - 2 = Lib.bitLen n - 3 by omega]
        have hle : n / 2 ^ (Lib.bitLen n - 1 - 2) ≤ n := Nat.div_le_self _ _
        have hq : (n : Int) / 2 ^ (Lib.bitLen n - 1 - 2) = ((n / 2 ^ (Lib.bitLen n - 1 - 2) : Nat) : Int) := by
          rw [Int.natCast_ediv, Int.natCast_pow]; rfl
        rw [e]
        exact record_mid_q b n (Lib.bitLen n) _ c w hd1 (by omega) (by omega) (Lib.hid rfl) hq (by omega) (hc _) h

theorem hist_bump {w : World} {b : Nat} {c : Nat → Nat} (h : Hist w b c) (i : Nat) (hi : i < 162) :
    Hist (w.setCell ⟨b, i, none⟩ (.int .u64 ((c i : Int) + 1))) b (fun j => c j + if i = j then 1 else 0) := by
  intro j hj
  refine ⟨?_, by simpa using (h j hj).2⟩
  by_cases e : i = j
  · subst e
    rw [World.cell?_setCell_same _ _ _ (h i hi).1]
    simp
  · rw [World.cell?_setCell_other w _ _ _ (by simp)]
    simpa [e] using (h j hj).1

end Go.Proofs.Ytbdcpfpoohadaaa
