/- The contracts of spec.Low and spec.Bucket. -/
import Derived.Test.YtbdcpfpoohadaaaWhere
import Derived.Test.YtbdcpfpoohadaaaPlain
namespace Go.Proofs.Ytbdcpfpoohadaaa
open Go.RowKit

/-- It returns this value; the world is as it was, but for draws. -/
def Gives (v : Value) (w : World) (e : Ending) (w' : World) : Prop := e = .returned v ∧ ∃ n, w' = w.drewN n

theorem ret_int {k : IntKind} {a b : Int} (h : a = b) : Ending.returned (.int k a) = .returned (.int k b) := by rw [h]

theorem low_val (i : Nat) (h4 : 4 ≤ i) (hi : i < 160) : wrap64 (wrap64 (2 ^ (i / 4 + 7)) + wrap64 ((i : Int) % 4 * 2 ^ (i / 4 + 5))) = (low i : Int) := by
  have h := low_le_max i (by omega)
  have e : (low i : Int) = 2 ^ (i / 4 + 7) + (i : Int) % 4 * 2 ^ (i / 4 + 5) := by
    unfold low
    rw [if_neg (by omega)]
    simp
  have p1 : (0 : Int) ≤ 2 ^ (i / 4 + 7) := Int.le_of_lt (Int.pow_pos (by omega))
  have p2 : (0 : Int) ≤ (i : Int) % 4 * 2 ^ (i / 4 + 5) := Int.mul_nonneg (by omega) (Int.le_of_lt (Int.pow_pos (by omega)))
  rw [e]
  generalize (2 : Int) ^ (i / 4 + 7) = a at *
  generalize (i : Int) % 4 * 2 ^ (i / 4 + 5) = b at *
  unfold wrap64
  omega

set_option maxRecDepth 100000 in
set_option maxHeartbeats 400000 in
theorem low_small (i : Nat) (hi : i < 4) (w : World) :
    Calls Try.prog 17 #[.int .i64 i] w (Gives (.int .i64 (low i)) w) := by
  go_enter Try.func17, Try.ntmps17
  go_wp2_with fail
  go_ret
  exact ⟨ret_int (by unfold low; rw [if_pos hi]; omega), 0, rfl⟩

set_option maxRecDepth 100000 in
set_option maxHeartbeats 400000 in
theorem low_big (i : Nat) (hi : 4 ≤ i) (hi2 : i < 160) (w : World) :
    Calls Try.prog 17 #[.int .i64 i] w (Gives (.int .i64 (low i)) w) := by
  go_enter Try.func17, Try.ntmps17
  go_wp2_with fail
  go_quiet (fail)
  go_wp2_with fail
  go_ret
  exact ⟨ret_int (low_val i hi hi2), nq, rfl⟩

theorem low_any (i : Nat) (hi : i < 160) (w : World) : Calls Try.prog 17 #[.int .i64 i] w (Gives (.int .i64 (low i)) w) := by
  by_cases h : i < 4
  · exact low_small i h w
  · exact low_big i (by omega) hi w

set_option maxRecDepth 100000 in
set_option maxHeartbeats 400000 in
theorem bucket_neg (d : Int) (hd : d < 0) (w : World) : Calls Try.prog 18 #[.int .i64 d] w (Gives (.int .i64 (wh d)) w) := by
  go_enter Try.func18, Try.ntmps18
  go_wp2_with fail
  go_ret
  exact ⟨ret_int (wh_neg d hd).symm, 0, rfl⟩

set_option maxRecDepth 100000 in
set_option maxHeartbeats 400000 in
theorem bucket_pos (d : Int) (hd : 0 ≤ d) (hd1 : d ≤ 9223372036854775807) (w : World) : Calls Try.prog 18 #[.int .i64 d] w (Gives (.int .i64 (wh d)) w) := by
  go_enter Try.func18, Try.ntmps18
  go_wp2_with fail
  go_loopw [3] (fun i wr => ∃ k : Nat, k ≤ 160 ∧ i = .int .i64 k ∧ (0 < k → (low (k - 1) : Int) ≤ d) ∧ ∃ n, wr = w.drewN n) (fun i _ => 160 - (intOf i).toNat)
  case atStart => exact ⟨0, Nat.zero_le _, rfl, fun h => absurd h (by omega), 0, rfl⟩
  case round =>
    obtain ⟨k, hk, rfl, hlow, n, rfl⟩ := hrel
    have HL := Lib.hid hlow
    clear hlow
    by_cases hlt : k < 160
    · by_cases hle : (low k : Int) ≤ d
      · go_wp2_with (go_at_call 17; refine (low_any k hlt _).mono ?_; rintro e w2 ⟨rfl, n2, rfl⟩)
        go_roundw
        case rel => exact ⟨k + 1, by omega, by go_num, fun _ => by simpa using hle, n + n2, rfl⟩
        case measure => simp [intOf]; omega
      · have hk0 : 0 < k := by
          by_cases h0 : k = 0
          · subst h0; exact absurd (show (low 0 : Int) ≤ d from hd) hle
          · omega
        have hw : wh d = (k : Int) - 1 := by
          rw [wh_of d (k - 1) (by omega) hd1 (HL.out hk0) (by rw [show k - 1 + 1 = k by omega]; omega)]
          omega
        have HW := Lib.hid hw
        clear hw
        go_wp2_with (go_at_call 17; refine (low_any k hlt _).mono ?_; rintro e w2 ⟨rfl, n2, rfl⟩)
        go_ret
        exact ⟨ret_int HW.out.symm, n + n2, rfl⟩
    · obtain rfl : k = 160 := by omega
      clear hlt
      have hl := HL.out (by omega)
      by_cases hb : 140737488355328 ≤ d
      · have HW := Lib.hid (wh_beyond d hb hd1)
        go_wp2_with fail
        go_ret
        exact ⟨ret_int HW.out.symm, n, rfl⟩
      · have HW := Lib.hid (wh_of d 159 (by omega) hd1 hl (by rw [low_160]; omega))
        clear hl
        go_wp2_with fail
        go_ret
        exact ⟨ret_int HW.out.symm, n, rfl⟩

/-- spec.Bucket: the number of the bucket. -/
theorem bucket_any (d : Int) (hd1 : d ≤ 9223372036854775807) (w : World) : Calls Try.prog 18 #[.int .i64 d] w (Gives (.int .i64 (wh d)) w) := by
  by_cases h : d < 0
  · exact bucket_neg d h w
  · exact bucket_pos d (by omega) hd1 w
end Go.Proofs.Ytbdcpfpoohadaaa
