/- The contract of spec.Record: the very counts of impl.Record. -/
import Derived.Test.YtbdcpfpoohadaaaLow
import Derived.Test.YtbdcpfpoohadaaaArg
import Derived.OpenShut
namespace Go.Proofs.Ytbdcpfpoohadaaa
open Go.RowKit

def zeroCounts : Array Value := Array.replicate 160 (.int .u64 0)
theorem make160 (w : World) : (Instr.makeSlice 27 (.int .i64 160) (.int .i64 160)).run Try.prog w = .ok (.slice (some ⟨w.heap.size, 0, none⟩) 160 160) (w.alloc (.cells zeroCounts 28)) := by kernel_rfl

theorem row_at {w : World} {a : Option Addr} {len cap : Nat} {zs : List Int} (h : IsRow .i64 w a len cap zs) (k : Nat) (hk : k < len) :
    ∃ b off, a = some ⟨b, off, none⟩ ∧ b < w.heap.size ∧ ∀ i, i < len → w.cell? ⟨b, off + i, none⟩ = some (.int .i64 (zs.getD i 0)) := by
  rcases h with ⟨_, h1, _, _⟩ | ⟨x, rfl, h1, _, h2, h3, _⟩
  · omega
  · obtain ⟨b, off, rfl, hc⟩ := ints_at h3 (by omega)
    exact ⟨b, off, rfl, cell_lt (hc 0 (by omega)), fun i hi => hc i (by omega)⟩

/-- Where count i lies: in the row of the buckets, or in the struct behind it. -/
def pos (B i : Nat) : Addr := if i < 160 then ⟨B + 1, i, none⟩ else ⟨B + 1 + 1, i - 159, none⟩

theorem pos_inj {B i j : Nat} (h : pos B i = pos B j) : i = j := by
  unfold pos at h
  split at h <;> split at h <;> simp at h <;> omega

/-- The three blocks of spec.Record, when the counts are f. -/
def Out (w : World) (B : Nat) (f : Nat → Nat) : Prop :=
  (∀ i, i < 162 → w.cell? (pos B i) = some (.int .u64 (f i : Int)) ∧ w.frozen? (pos B i) = false) ∧
  w.cell? ⟨B + 1 + 1, 0, none⟩ = some (.slice (some ⟨B + 1, 0, none⟩) 160 160) ∧
  w.heap[B]? = some (.cells #[.slice none 0 0, .int .u64 0, .int .u64 0] 30 (0, 0))

theorem out_new (w : World) : Out (((w.alloc (.cells #[.slice none 0 0, .int .u64 0, .int .u64 0] 30)).alloc (.cells zeroCounts 28)).alloc (.cells #[.slice (some ⟨w.heap.size + 1, 0, none⟩) 160 160, .int .u64 0, .int .u64 0] 30)) w.heap.size (cnt []) := by
  refine ⟨fun i hi => ?_, ?_, ?_⟩
  · unfold pos
    split
    · rename_i h
      refine ⟨?_, ?_⟩
      · rw [World.cell?_alloc_past _ _ _ (by simp), World.cell?_alloc_at _ _ _ _ (by simp)]
        simp [zeroCounts, h, cnt_nil]
      · rw [World.frozen?_alloc_past _ _ _ (by simp)]
        exact World.frozen?_alloc_at _ _ _ _ (by simp)
    · rename_i h
      refine ⟨?_, World.frozen?_alloc_at _ _ _ _ (by simp)⟩
      rw [World.cell?_alloc_at _ _ _ _ (by simp), cnt_nil]
      have : i = 160 ∨ i = 161 := by omega
      rcases this with rfl | rfl <;> rfl
  · rw [World.cell?_alloc_at _ _ _ _ (by simp)]
    rfl
  · rw [Below.heap_alloc _ _ _ (by simp; omega), Below.heap_alloc _ _ _ (by simp)]
    exact heap_alloc_new w _

theorem out_drew {w : World} {B : Nat} {f : Nat → Nat} (h : Out w B f) (n : Nat) : Out (w.drewN n) B f := by
  obtain ⟨h1, h2, h3⟩ := h
  exact ⟨fun i hi => ⟨by simpa using (h1 i hi).1, by simpa using (h1 i hi).2⟩, by simpa using h2, h3⟩

theorem out_set {w : World} {B : Nat} {f f' : Nat → Nat} (h : Out w B f) (i : Nat) (hi : i < 162) (hf : ∀ j, f' j = f j + if i = j then 1 else 0) : Out (w.setCell (pos B i) (.int .u64 ((f i : Int) + 1))) B f' := by
  obtain ⟨h1, h2, h3⟩ := h
  refine ⟨fun j hj => ⟨?_, by simpa using (h1 j hj).2⟩, ?_, ?_⟩
  · rw [hf j]
    by_cases e : i = j
    · subst e
      rw [World.cell?_setCell_same _ _ _ (h1 i hi).1]
      simp
    · rw [World.cell?_setCell_other w _ _ _ (fun h => e (pos_inj h)), if_neg e, Nat.add_zero]
      exact (h1 j hj).1
  · rw [World.cell?_setCell_other w _ _ _ ?_]
    · exact h2
    · unfold pos
      split <;> simp
  · rw [Below.heap_setCell _ _ _ _ (by unfold pos; split <;> simp <;> omega)]
    exact h3

theorem out_below {w W : World} {B : Nat} (h : Below B W w) (i : Nat) (u : Value) : Below B W (w.setCell (pos B i) u) :=
  h.setCell (by unfold pos; split <;> simp <;> omega) u

theorem cnt_step {l : List Int} {k : Nat} (hk : k < l.length) (x : Int) (hx : l.getD k 0 = x) (j : Nat) : cnt (l.take (k + 1)) j = cnt (l.take k) j + if idx x = j then 1 else 0 := by
  rw [take_succ_getD l k hk, cnt_snoc, hx]

set_option maxRecDepth 100000 in
set_option maxHeartbeats 1000000 in
theorem srec_len (a : Option Addr) (len cap : Nat) (l : List Int) (HL : Hid (l.length = len)) (w : World) (hlen : len ≤ 1000000000)
    (HA : Hid (∀ k, k < len → ∃ b off, a = some ⟨b, off, none⟩ ∧ b < w.heap.size ∧ w.cell? ⟨b, off + k, none⟩ = some (.int .i64 (l.getD k 0))))
    (HW : Hid (∀ i, i < len → -9223372036854775808 ≤ l.getD i 0 ∧ l.getD i 0 ≤ 9223372036854775807)) :
    Calls Try.prog 20 #[.slice a len cap] w (CountedS w l) := by
  have hmk := make160
  have HN := Lib.hid (out_new w)
  go_enter Try.func20, Try.ntmps20
  go_wp2_with fail
  clear hmk
  go_loopw [11] (fun i wr => ∃ k : Nat, k ≤ len ∧ i = .int .i64 k ∧ Out wr w.heap.size (cnt (l.take k)) ∧ Below w.heap.size w wr ∧ w.heap.size + 3 ≤ wr.heap.size) (fun i _ => len - (intOf i).toNat)
  case atStart => exact ⟨0, Nat.zero_le _, rfl, HN.out, (((Below.refl _ _).alloc (Nat.le_refl _) _).alloc (by simp) _).alloc (by simp; omega) _, by simp⟩
  case round =>
    clear HN
    obtain ⟨k, hk, rfl, hO, hbel, hsz⟩ := hrel
    by_cases hlt : k < len
    · obtain ⟨b, off, rfl, hb, hck⟩ := HA.out k hlt
      obtain ⟨x, hx⟩ : ∃ x, l.getD k 0 = x := ⟨_, rfl⟩
      obtain ⟨hx0, hx1⟩ : -9223372036854775808 ≤ x ∧ x ≤ 9223372036854775807 := by rw [← hx]; exact HW.out k hlt
      have hcx : wr.cell? ⟨b, off + k, none⟩ = some (.int .i64 x) := by rw [← hx]; exact (hbel.cell (by exact hb)).trans hck
      have hstep := cnt_step (by rw [HL.out]; exact hlt) x hx
      have hcb := cnt_lt (zs := l) k (by rw [HL.out]; exact hlen)
      have HS := Lib.hid hstep
      have HO := Lib.hid hO
      have HB := Lib.hid hbel
      have HZ := Lib.hid hsz
      have HK := Lib.hid hcb
      clear hx hck hstep hO hcb hb
      by_cases c1 : idx x = 160
      · go_wp2_with fail
        refine (bucket_any x hx1 wr).mono ?_
        rw [show wh x = -1 from by unfold wh; rw [if_pos c1]]
        rintro e w2 ⟨rfl, n, rfl⟩
        have hc : wr.cell? ⟨w.heap.size + 1 + 1, 1, none⟩ = some (.int .u64 (cnt (l.take k) 160 : Int)) := (HO.out.1 160 (by omega)).1
        have hf : wr.frozen? ⟨w.heap.size + 1 + 1, 1, none⟩ = false := (HO.out.1 160 (by omega)).2
        have hs : wr.cell? ⟨w.heap.size + 1 + 1, 0, none⟩ = some (.slice (some ⟨w.heap.size + 1, 0, none⟩) 160 160) := HO.out.2.1
        have hm := HK.out 160
        have HN : Hid (Out ((wr.drewN n).setCell ⟨w.heap.size + 1 + 1, 1, none⟩ (.int .u64 ((cnt (l.take k) 160 : Int) + 1))) w.heap.size (cnt (l.take (k + 1)))) := Lib.hid (out_set (out_drew HO.out n) 160 (by omega) (fun j => by rw [HS.out j, c1]))
        clear c1 hcx
        go_wp2_with fail
        go_roundw
        case rel => exact ⟨k + 1, by omega, by go_num, HN.out, (below_drewN HB.out n).setCell (by simp; omega) _, by simpa using HZ.out⟩
        case measure => simp [intOf]; omega
      · by_cases c2 : idx x = 161
        · go_wp2_with fail
          refine (bucket_any x hx1 wr).mono ?_
          rw [show wh x = 160 from by unfold wh; rw [if_neg c1, if_pos c2]]
          rintro e w2 ⟨rfl, n, rfl⟩
          have hc : wr.cell? ⟨w.heap.size + 1 + 1, 2, none⟩ = some (.int .u64 (cnt (l.take k) 161 : Int)) := (HO.out.1 161 (by omega)).1
          have hf : wr.frozen? ⟨w.heap.size + 1 + 1, 2, none⟩ = false := (HO.out.1 161 (by omega)).2
          have hs : wr.cell? ⟨w.heap.size + 1 + 1, 0, none⟩ = some (.slice (some ⟨w.heap.size + 1, 0, none⟩) 160 160) := HO.out.2.1
          have hm := HK.out 161
          have HN : Hid (Out ((wr.drewN n).setCell ⟨w.heap.size + 1 + 1, 2, none⟩ (.int .u64 ((cnt (l.take k) 161 : Int) + 1))) w.heap.size (cnt (l.take (k + 1)))) := Lib.hid (out_set (out_drew HO.out n) 161 (by omega) (fun j => by rw [HS.out j, c2]))
          clear c1 c2 hcx
          go_wp2_with fail
          go_roundw
          case rel => exact ⟨k + 1, by omega, by go_num, HN.out, (below_drewN HB.out n).setCell (by simp; omega) _, by simpa using HZ.out⟩
          case measure => simp [intOf]; omega
        · obtain ⟨m, hm0⟩ : ∃ m, idx x = m := ⟨_, rfl⟩
          have hm1 : m < 160 := by have := idx_lt x; omega
          have hp : pos w.heap.size m = ⟨w.heap.size + 1, m, none⟩ := by unfold pos; rw [if_pos hm1]
          have hp1 := HO.out.1 m (by omega)
          rw [hp] at hp1
          have hp2 := fun n => out_set (out_drew HO.out n) m (by omega) (f' := cnt (l.take (k + 1))) (fun j => by rw [HS.out j, hm0])
          rw [hp] at hp2
          have HM : Hid (wh x = (m : Int)) := Lib.hid (by unfold wh; rw [if_neg c1, if_neg c2, hm0])
          have HQ := Lib.hid hp2
          obtain ⟨hp3, hp4⟩ := hp1
          clear hm0 hp hp2 c1 c2
          go_wp2_with fail
          refine (bucket_any x hx1 wr).mono ?_
          rw [HM.out]
          rintro e w2 ⟨rfl, n, rfl⟩
          have hc : wr.cell? ⟨w.heap.size + 1, m, none⟩ = some (.int .u64 (cnt (l.take k) m : Int)) := hp3
          have hf : wr.frozen? ⟨w.heap.size + 1, m, none⟩ = false := hp4
          have hs : wr.cell? ⟨w.heap.size + 1 + 1, 0, none⟩ = some (.slice (some ⟨w.heap.size + 1, 0, none⟩) 160 160) := HO.out.2.1
          have hm := HK.out m
          have HN : Hid (Out ((wr.drewN n).setCell ⟨w.heap.size + 1, m, none⟩ (.int .u64 ((cnt (l.take k) m : Int) + 1))) w.heap.size (cnt (l.take (k + 1)))) := Lib.hid (HQ.out n)
          clear hcx
          go_wp2_with fail
          go_roundw
          case rel => exact ⟨k + 1, by omega, by go_num, HN.out, (below_drewN HB.out n).setCell (by simp) _, by simpa using HZ.out⟩
          case measure => simp [intOf]; omega
    · obtain rfl : k = len := by omega
      rw [List.take_of_length_le (by rw [HL.out]; exact Nat.le_refl _)] at hO
      obtain ⟨o1, o2, o3⟩ := hO
      have r1 : wr.cell? ⟨w.heap.size + 1 + 1, 1, none⟩ = some (.int .u64 (cnt l 160 : Int)) := (o1 160 (by omega)).1
      have r2 : wr.cell? ⟨w.heap.size + 1 + 1, 2, none⟩ = some (.int .u64 (cnt l 161 : Int)) := (o1 161 (by omega)).1
      obtain ⟨q0, f0⟩ := cell_of_block o3 0
      obtain ⟨q1, f1⟩ := cell_of_block o3 1
      obtain ⟨q2, f2⟩ := cell_of_block o3 2
      simp at q0 q1 q2
      have HO : Hid (∀ i, i < 160 → wr.cell? ⟨w.heap.size + 1, i, none⟩ = some (.int .u64 (cnt l i : Int))) := Lib.hid (fun i hi => by
        have := (o1 i (by omega)).1
        unfold pos at this
        rw [if_pos hi] at this
        exact this)
      clear o1 o3 hlt
      go_wp2_with fail
      refine bodyPost_ret (v := .agg #[.slice (some ⟨w.heap.size + 1, 0, none⟩) 160 160, .int .u64 (cnt l 160 : Int), .int .u64 (cnt l 161 : Int)]) (by simp [results, Try.results20, go_sem, q0, q1, q2]) rfl ⟨w.heap.size + 1, 160, rfl, by omega, by simp; omega, ?_, ?_⟩
      · intro i hi
        rw [World.cell?_setCell_other _ _ _ _ (by simp), World.cell?_setCell_other _ _ _ _ (by simp), World.cell?_setCell_other _ _ _ _ (by simp)]
        exact HO.out i hi
      · exact ((hbel.setCell (Nat.le_refl _) _).setCell (Nat.le_refl _) _).setCell (Nat.le_refl _) _

/-- spec.Record of a list that came in. -/
theorem srec_row (a : Option Addr) (len cap : Nat) (zs : List Int) (w : World) (hr : IsRow .i64 w a len cap zs) (hlen : len ≤ 1000000000) :
    Calls Try.prog 20 #[.slice a len cap] w (CountedS w (zs.take len)) := by
  refine srec_len a len cap (zs.take len) (Lib.hid (row_length hr)) w hlen (Lib.hid fun k hk => ?_) (Lib.hid fun i hi => ?_)
  · obtain ⟨b, off, e, hb, hc⟩ := row_at hr k hk
    exact ⟨b, off, e, hb, by rw [getD_take _ _ _ hk]; exact hc k hk⟩
  · rw [getD_take _ _ _ hi]
    exact row_wf hr i hi
end Go.Proofs.Ytbdcpfpoohadaaa
