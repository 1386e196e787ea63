/- The contract of impl.Bounds: the bounds, word by word. -/
import Derived.Test.YtbdcpfpoohadaaaSec
import Derived.Test.YtbdcpfpoohadaaaRows
import Derived.WalkKit
import Derived.WalkSpells
import Derived.WalkLawsBesides
import Derived.Lib.Hide
namespace Go.Proofs.Ytbdcpfpoohadaaa
open Go.RowKit

theorem frombits_pos (w : World) : (callFunc 33 #[.int .u64 9218868437227405312]).run Try.prog w = .ok (.value (.float .f64 Fl.posInf)) w := by kernel_rfl
theorem frombits_neg (w : World) : (callFunc 33 #[.int .u64 18442240474082181120]).run Try.prog w = .ok (.value (.float .f64 Fl.negInf)) w := by kernel_rfl

set_option maxHeartbeats 400000 in
theorem negInf_any (w : World) : Calls Try.prog 46 #[] w fun e w' => e = .returned (.float .f64 Fl.negInf) ∧ w = w' := by
  have h := frombits_neg
  go_enter Try.func46, Try.ntmps46
  go_wp2
  go_ret
  exact ⟨rfl, rfl⟩

set_option maxHeartbeats 400000 in
theorem posInf_any (w : World) : Calls Try.prog 47 #[] w fun e w' => e = .returned (.float .f64 Fl.posInf) ∧ w = w' := by
  have h := frombits_pos
  go_enter Try.func47, Try.ntmps47
  go_wp2
  go_ret
  exact ⟨rfl, rfl⟩

/-- A float stored into a cell. -/
theorem store_float (w : World) (a : Addr) (m : Mode) (n : Nat) : (store a (.float .f64 n) m).run Try.prog w = stored Try.prog w a (.float .f64 n) m := run_store Try.prog w a _ m rfl

def zeroRow : Array Value := Array.replicate 163 (.float .f64 0)
theorem make163 (w : World) : (Instr.makeSlice 22 (.int .i64 163) (.int .i64 163)).run Try.prog w = .ok (.slice (some ⟨w.heap.size, 0, none⟩) 163 163) (w.alloc (.cells zeroRow 24)) := by kernel_rfl

/-- Block g is a row of 163 floats that hold the words f. -/
def FRow (w : World) (g : Nat) (f : Nat → Nat) : Prop := ∀ j, j < 163 → w.cell? ⟨g, j, none⟩ = some (.float .f64 (f j)) ∧ w.frozen? ⟨g, j, none⟩ = false

theorem frow_new (w : World) : FRow (w.alloc (.cells zeroRow 24)) w.heap.size (fun _ => 0) := by
  intro j hj
  refine ⟨?_, World.frozen?_alloc_at _ _ _ _ rfl⟩
  rw [World.cell?_alloc_at _ _ _ _ rfl]
  simp [zeroRow, hj]

theorem frow_set {w : World} {g : Nat} {f f' : Nat → Nat} (h : FRow w g f) (i v : Nat) (hi : i < 163) (hf : ∀ j, j < 163 → f' j = if i = j then v else f j) : FRow (w.setCell ⟨g, i, none⟩ (.float .f64 v)) g f' := by
  intro j hj
  refine ⟨?_, by simpa using (h j hj).2⟩
  rw [hf j hj]
  by_cases e : i = j
  · subst e
    rw [World.cell?_setCell_same _ _ _ (h i hi).1, if_pos rfl]
  · rw [World.cell?_setCell_other w _ _ _ (by simp), if_neg e]
    exact (h j hj).1

/-- The row when the bounds of the first k buckets are in. -/
def st (k j : Nat) : Nat := if j = 0 then Fl.negInf else if j ≤ k then Fl.Q (low (j - 1)) else 0

theorem st_zero (j : Nat) (_ : j < 163) : st 0 j = if 0 = j then Fl.negInf else 0 := by
  unfold st
  by_cases h : j = 0
  · rw [if_pos h, if_pos h.symm]
  · rw [if_neg h, if_neg (by omega), if_neg (by omega)]

theorem st_succ (k j : Nat) (_ : j < 163) : st (k + 1) j = if k + 1 = j then Fl.Q (low k) else st k j := by
  unfold st
  by_cases h : k + 1 = j
  · subst h
    rw [if_neg (by omega), if_pos (Nat.le_refl _), if_pos rfl, Nat.add_sub_cancel]
  · rw [if_neg h]
    by_cases h0 : j = 0
    · rw [if_pos h0, if_pos h0]
    · rw [if_neg h0, if_neg h0]
      by_cases h1 : j ≤ k
      · rw [if_pos h1, if_pos (by omega)]
      · rw [if_neg h1, if_neg (by omega)]

/-- The quotient that the walk meets. -/
theorem run_quo (n : Int) (d : Nat) (h : n = d) (hd : d ≤ 9223372036854775807) (w : World) :
    (binOp .quo 24 (.float .f64 (floatOfInt .f64 n)) (.float .f64 4741671816366391296)).run Try.prog w = .ok (.float .f64 (Fl.Q d)) w := by
  subst h
  rw [← S_nat]
  exact run_float_arith w .quo 24 .f64 _ _ _ (fquo d (by omega) (by omega))

theorem low_four (j : Nat) (h : j < 4) : low j = j * 64 := by unfold low; rw [if_pos h]

/-- The bits that the second loop puts together are the least duration of a bucket. -/
theorem or_low : ∀ i : Nat, i < 48 → 9 ≤ i → ∀ j : Nat, j < 4 → bits BinOp.or IntKind.u64 (IntKind.u64.wrap (2 ^ (i - 1))) (IntKind.u64.wrap ((j : Int) * 2 ^ (i - 1 - 2))) = (low ((i - 9 + 1) * 4 + j) : Int) := by decide +kernel

/-- The row when what is beyond is in, too. -/
def st161 (j : Nat) : Nat := if 161 = j then 4684075716116403861 else st 160 j

theorem bd_st (j : Nat) (hj : j < 163) : bd j = if 162 = j then Fl.posInf else st161 j := by
  unfold bd st161 st
  by_cases h2 : 162 = j
  · subst h2; rfl
  · rw [if_neg h2]
    by_cases h0 : j = 0
    · subst h0; rfl
    · rw [if_neg h0, if_neg (fun h => h2 h.symm), if_neg h0]
      by_cases h1 : 161 = j
      · subst h1
        rw [if_pos rfl, show 161 - 1 = 160 from rfl, low_160, Q_last]
      · rw [if_neg h1]
        rw [if_pos (show j ≤ 160 by omega)]

/-- The bounds, as a slice of the call's own. -/
def Bounded (w : World) (e : Ending) (w' : World) : Prop :=
  e = .returned (.slice (some ⟨w.heap.size, 0, none⟩) 163 163) ∧ (∀ j, j < 163 → w'.cell? ⟨w.heap.size, j, none⟩ = some (.float .f64 (bd j))) ∧ Below w.heap.size w w' ∧ w.heap.size < w'.heap.size

set_option maxRecDepth 100000 in
set_option maxHeartbeats 400000 in
theorem bounds_fill (w : World) : Calls Try.prog 30 #[] w (Bounded w) := by
  have hmk := make163
  have hsf := store_float
  have hnew := frow_new w
  go_enter Try.func30, Try.ntmps30
  go_wp2_with fail
  have hb0 : Below w.heap.size w (w.alloc (.cells zeroRow 24)) := (Below.refl _ _).alloc (Nat.le_refl _) _
  have hs0 : w.heap.size < (w.alloc (.cells zeroRow 24)).heap.size := by simp
  generalize w.alloc (.cells zeroRow 24) = W at *
  refine (negInf_any _).mono ?_
  rintro e w1 ⟨rfl, rfl⟩
  have c0 := (hnew 0 (by omega)).1
  have f0 := (hnew 0 (by omega)).2
  have hst := frow_set hnew 0 Fl.negInf (by omega) st_zero
  have HS := Lib.hid hst
  clear hmk hnew hst
  go_wp2_with fail
  clear c0 f0
  go_loopw [2] (fun i wr => ∃ k : Nat, k ≤ 4 ∧ i = .int .i64 k ∧ FRow wr w.heap.size (st k) ∧ Below w.heap.size w wr ∧ w.heap.size < wr.heap.size) (fun i _ => 4 - (intOf i).toNat)
  case atStart => exact ⟨0, Nat.zero_le _, rfl, HS.out, hb0.setCell (Nat.le_refl _) _, by simpa using hs0⟩
  case round =>
    obtain ⟨k, hk, rfl, hF, hbel, hsz⟩ := hrel
    clear HS hb0 hs0
    by_cases hlt : k < 4
    · have hc := (hF (k + 1) (by omega)).1
      have hf := (hF (k + 1) (by omega)).2
      have hq := run_quo ((k : Int) * 64) (low k) (by rw [low_four k hlt]; omega) (by have := low_le_max k (by omega); omega)
      have hnext := frow_set hF (k + 1) _ (by omega) (st_succ k)
      have HN := Lib.hid hnext
      clear hnext
      go_wp2_with fail
      go_roundw
      case rel => exact ⟨k + 1, by omega, by go_num, HN.out, hbel.setCell (Nat.le_refl _) _, by simpa using hsz⟩
      case measure => simp [intOf]; omega
    · go_wp2_with fail
      obtain rfl : k = 4 := by omega
      clear hlt
      obtain ⟨wo, rfl⟩ : ∃ wo : World, wo = wr := ⟨_, rfl⟩
      go_loopw [4] (fun i wr => ∃ k : Nat, 9 ≤ k ∧ k ≤ 48 ∧ i = .int .i64 k ∧ FRow wr w.heap.size (st ((k - 9 + 1) * 4)) ∧ Below w.heap.size w wr ∧ w.heap.size < wr.heap.size) (fun i _ => 48 - (intOf i).toNat)
      case atStart => exact ⟨9, by omega, by omega, rfl, hF, hbel, hsz⟩
      case round =>
        clear hF hbel hsz
        obtain ⟨i, hi9, hi, rfl, hF, hbel, hsz⟩ := hrel
        by_cases hlt : i < 48
        · go_wp2_with fail
          obtain ⟨wi, rfl⟩ : ∃ wi : World, wi = wr := ⟨_, rfl⟩
          go_loopw [5] (fun v wr => ∃ j : Nat, j ≤ 4 ∧ v = .int .i64 j ∧ FRow wr w.heap.size (st ((i - 9 + 1) * 4 + j)) ∧ Below w.heap.size w wr ∧ w.heap.size < wr.heap.size) (fun v _ => 4 - (intOf v).toNat)
          case atStart => exact ⟨0, Nat.zero_le _, rfl, hF, hbel, hsz⟩
          case round =>
            clear hF hbel hsz
            obtain ⟨j, hj, rfl, hF, hbel, hsz⟩ := hrel
            by_cases hltj : j < 4
            · have hc := (hF ((i - 9 + 1) * 4 + j + 1) (by omega)).1
              have hf := (hF ((i - 9 + 1) * 4 + j + 1) (by omega)).2
              have hq := run_quo _ (low ((i - 9 + 1) * 4 + j)) (or_low i hlt hi9 j hltj) (by have := low_le_max ((i - 9 + 1) * 4 + j) (by omega); omega)
              have hnext := frow_set hF ((i - 9 + 1) * 4 + j + 1) _ (by omega) (st_succ ((i - 9 + 1) * 4 + j))
              have HN := Lib.hid hnext
              clear hnext
              go_wp2_with fail
              go_roundw
              case rel => exact ⟨j + 1, by omega, by go_num, HN.out, hbel.setCell (Nat.le_refl _) _, by simpa using hsz⟩
              case measure => simp [intOf]; omega
            · obtain rfl : j = 4 := by omega
              clear hltj
              have hF' : FRow wr w.heap.size (st ((i + 1 - 9 + 1) * 4)) := by
                rw [show (i + 1 - 9 + 1) * 4 = (i - 9 + 1) * 4 + 4 by omega]
                exact hF
              clear hF
              go_wp2_with fail
              go_roundw
              case rel => exact ⟨i + 1, by omega, by omega, by go_num, hF', hbel, hsz⟩
              case measure => simp [intOf]; omega
        · obtain rfl : i = 48 := by omega
          clear hlt
          have c161 := (hF 161 (by omega)).1
          have f161 := (hF 161 (by omega)).2
          have h161 := frow_set (f' := st161) hF 161 4684075716116403861 (by omega) (fun _ _ => rfl)
          have c162 := (h161 162 (by omega)).1
          have f162 := (h161 162 (by omega)).2
          have h162 := frow_set h161 162 Fl.posInf (by omega) bd_st
          have HR : Hid (FRow _ _ _) := Lib.hid h162
          clear h161 h162 hF
          go_wp2_with (go_at_call 47; refine (posInf_any _).mono ?_; rintro e w2 ⟨rfl, rfl⟩)
          go_ret
          exact ⟨rfl, fun j hj => (HR.out j hj).1, (hbel.setCell (Nat.le_refl _) _).setCell (Nat.le_refl _) _, by simpa using hsz⟩
set_option maxHeartbeats 400000 in
theorem buckets_any (w : World) : Calls Try.prog 25 #[] w (Bounded w) := by
  go_enter Try.func25, Try.ntmps25
  go_wp2_with fail
  refine (bounds_fill w).mono ?_
  rintro e w1 ⟨rfl, hc, hb, hs⟩
  have HC := Lib.hid hc
  clear hc
  go_wp2_with fail
  go_ret
  exact ⟨rfl, HC.out, hb, hs⟩

set_option maxHeartbeats 400000 in
/-- impl.Bounds: the bounds, word by word. -/
theorem bounds_any (w : World) : Calls Try.prog 14 #[] w (Bounded w) := by
  go_enter Try.func14, Try.ntmps14
  go_wp2_with fail
  refine (buckets_any w).mono ?_
  rintro e w1 ⟨rfl, hc, hb, hs⟩
  have HC := Lib.hid hc
  clear hc
  go_wp2_with fail
  go_ret
  exact ⟨rfl, HC.out, hb, hs⟩
end Go.Proofs.Ytbdcpfpoohadaaa
