/- The contract of histogram.Record: the counts of all cells, over whatever list. -/
import Derived.Test.YtbdcpfpoohadaaaRec
import Derived.BigQuiet
import Derived.Deep.QuietTactic
namespace Go.Proofs.Ytbdcpfpoohadaaa
open Go.RowKit

def zeroHist : Array Value := Array.replicate 162 (.int .u64 0)
theorem zero58 (w : World) : (zeroValue 58).run Try.prog w = .ok (.agg zeroHist) w := by kernel_rfl

theorem hist_new (w : World) : Hist (w.alloc (.cells zeroHist 58)) w.heap.size (cnt []) := by
  intro i hi
  refine ⟨?_, ?_⟩
  · rw [World.cell?_alloc_at _ _ _ _ rfl]
    simp [zeroHist, hi, cnt_nil]
  · exact World.frozen?_alloc_at _ _ _ _ rfl

theorem Try.info28 : (Try.prog.info? 28).map (fun i => (i.zero, i.size, i.bytes)) = some (some (.int .u64 0), 1, 8) := by kernel_rfl

/-- What the second loop has gathered after k rounds. -/
def firsts (zs : List Int) (k : Nat) : List Value := (List.range k).map fun i => Value.int .u64 (cnt zs i : Int)
theorem firsts_length (zs : List Int) (k : Nat) : (firsts zs k).length = k := by simp [firsts]
theorem firsts_succ (zs : List Int) (k : Nat) : firsts zs (k + 1) = firsts zs k ++ [Value.int .u64 (cnt zs k : Int)] := by
  simp [firsts, List.range_succ]

theorem take_succ_getD (zs : List Int) (k : Nat) (h : k < zs.length) : zs.take (k + 1) = zs.take k ++ [zs.getD k 0] := by
  rw [List.take_succ_eq_append_getElem h]
  simp [List.getD_eq_getElem?_getD, h]

theorem hist_cnt_succ {w : World} {b : Nat} {zs : List Int} {k : Nat} (hk : k < zs.length) (h : Hist w b (cnt (zs.take k))) :
    Hist (w.setCell ⟨b, idx (zs.getD k 0), none⟩ (.int .u64 ((cnt (zs.take k) (idx (zs.getD k 0)) : Int) + 1))) b (cnt (zs.take (k + 1))) := by
  have h1 := hist_bump h (idx (zs.getD k 0)) (idx_lt _)
  have e : (fun j => cnt (zs.take k) j + if idx (zs.getD k 0) = j then 1 else 0) = cnt (zs.take (k + 1)) := by
    funext j
    rw [take_succ_getD zs k hk, cnt_snoc]
  rw [e] at h1
  exact h1

theorem hist_grown {w w' : World} {b : Nat} {c : Nat → Nat} {row : Option Nat} (h : Hist w b c) (hg : w.grownBy w' row) (hlt : b < w.heap.size) (hne : some b ≠ row) : Hist w' b c := by
  have e := hg.block b hlt hne
  intro i hi
  refine ⟨?_, ?_⟩
  · rw [World.cell?_of_block (w := w) (w' := w') (a := ⟨b, i, none⟩) e]
    exact (h i hi).1
  · rw [World.frozen?_of_block (w := w) (w' := w') (a := ⟨b, i, none⟩) e]
    exact (h i hi).2

theorem hist_alloc {w : World} {b : Nat} {c : Nat → Nat} (h : Hist w b c) (hlt : b < w.heap.size) (o : Obj) : Hist (w.alloc o) b c :=
  hist_grown h (World.grownBy_alloc w o none) hlt (by simp)

/-- What one round of the second loop does to its relation. -/
theorem rel_append {W w w' : World} {B j : Nat} {zs : List Int} {v v' : Value} {o : Obj} (hown : w.ownsRow (B + 1) 28 1 v j (firsts zs j)) (hH : Hist w B (cnt zs)) (hbel : Below B W w) (hsz : B < w.heap.size)
    (hown' : w'.ownsRow (B + 1) 28 1 v' (j + 1) (firsts zs j ++ [Value.int .u64 (cnt zs j : Int)])) (hg : (w.alloc o).grownBy w' v.ownBlock) :
    w'.ownsRow (B + 1) 28 1 v' (j + 1) (firsts zs (j + 1)) ∧ Hist w' B (cnt zs) ∧ Below B W w' ∧ B < w'.heap.size := by
  have hne : some B ≠ v.ownBlock := by
    intro h
    have := hown.lt B h.symm
    omega
  have hsz' : B < (w.alloc o).heap.size := by simp; omega
  refine ⟨by rw [firsts_succ]; exact hown', hist_grown (hist_alloc hH hsz o) hg hsz' hne, (hbel.alloc (by omega) o).grown hg (by omega) ?_, by have := hg.size; omega⟩
  intro k hk
  have := hown.lt k hk
  omega

theorem owned_cells {w : World} {base : Nat} {v : Value} {zs : List Int} (h : w.ownsRow base 28 1 v 160 (firsts zs 160)) :
    ∃ g cap : Nat, v = .slice (some ⟨g, 0, none⟩) 160 cap ∧ base ≤ g ∧ g < w.heap.size ∧ ∀ i, i < 160 → w.cell? ⟨g, i, none⟩ = some (.int .u64 (cnt zs i : Int)) := by
  have h0 := h
  rcases h.2 with ⟨_, h1⟩ | ⟨g, cap, cur, rfl, hb, _⟩
  · omega
  · refine ⟨g, cap, rfl, hb, (h0.lt g rfl).2, fun i hi => ?_⟩
    rw [h0.cellAt i (by omega)]
    simp [firsts, hi]

/-- Load beside draws. -/
theorem load_q (b i : Nat) (x : Int) (w : World) (n : Nat) (h0 : w.cell? ⟨b, i, none⟩ = some (.int .u64 x)) :
    Calls Try.prog 32 #[.pointer (some ⟨b, i, none⟩)] (w.drewN n) fun e w'' => e = .returned (.int .u64 x) ∧ ∃ m, w'' = w.drewN m :=
  (load_any b i x (w.drewN n) h0).mono fun _ _ ⟨he, hw⟩ => ⟨he, n, hw.symm⟩

/-- The list's counts, as histogram.Record hands them back: a slice of the call's own, and two numbers. -/
def Counted (w : World) (zs : List Int) (e : Ending) (w' : World) : Prop :=
  ∃ g cap : Nat, e = .returned (.tuple #[.slice (some ⟨g, 0, none⟩) 160 cap, .int .u64 (cnt zs 160 : Int), .int .u64 (cnt zs 161 : Int)]) ∧
    w.heap.size ≤ g ∧ g < w'.heap.size ∧ (∀ i, i < 160 → w'.cell? ⟨g, i, none⟩ = some (.int .u64 (cnt zs i : Int))) ∧ Below w.heap.size w w'

theorem cnt_lt {zs : List Int} (k : Nat) (h : zs.length ≤ 1000000000) (i : Nat) : cnt (zs.take k) i < 1000000000000 := by
  have h1 := cnt_le (zs.take k) i
  have h2 : (zs.take k).length ≤ zs.length := List.length_take_le' _ _
  omega

set_option maxRecDepth 100000 in
set_option maxHeartbeats 400000 in
theorem hrec_len (b off cap len : Nat) (zs : List Int) (HL : Hid (zs.length = len)) (w : World) (hb : b < w.heap.size) (hlen : len ≤ 1000000000)
    (HC : Hid (∀ i, i < len → w.cell? ⟨b, off + i, none⟩ = some (.int .i64 (zs.getD i 0))))
    (HW : Hid (∀ i, i < len → -9223372036854775808 ≤ zs.getD i 0 ∧ zs.getD i 0 ≤ 9223372036854775807)) :
    Calls Try.prog 26 #[.slice (some ⟨b, off, none⟩) len cap] w (Counted w zs) := by
  obtain ⟨i0, hi, hz0, hz1, hz2⟩ := info_parts Try.info28
  have hz := zero58
  have hnew := hist_new w
  go_enter Try.func26, Try.ntmps26
  go_wp2_with fail
  clear hz
  go_loopw [12] (fun i wr => ∃ k : Nat, k ≤ len ∧ i = .int .i64 k ∧ Hist wr w.heap.size (cnt (zs.take k)) ∧ Below w.heap.size w wr ∧ w.heap.size < wr.heap.size) (fun i _ => len - (intOf i).toNat)
  case atStart => exact ⟨0, Nat.zero_le _, rfl, hnew, (Below.refl _ _).alloc (Nat.le_refl _) _, by simp⟩
  case round =>
    obtain ⟨k, hk, rfl, hH, hbel, hsz⟩ := hrel
    clear hnew
    by_cases hlt : k < len
    · obtain ⟨x, hx⟩ : ∃ x, zs.getD k 0 = x := ⟨_, rfl⟩
      have hcx : wr.cell? ⟨b, off + k, none⟩ = some (.int .i64 x) := by rw [← hx]; exact (hbel.cell (by exact hb)).trans (HC.out k hlt)
      obtain ⟨hx0, hx1⟩ : -9223372036854775808 ≤ x ∧ x ≤ 9223372036854775807 := by rw [← hx]; exact HW.out k hlt
      have hsucc := hist_cnt_succ (by rw [HL.out]; exact hlt) hH
      have hcb := cnt_lt (zs := zs) k (by rw [HL.out]; exact hlen)
      rw [hx] at hsucc
      have HX := Lib.hid hx
      have HB := Lib.hid hcb
      clear hx hcb
      go_wp2_with (go_at_call 31; refine (record_any _ _ _ _ hx0 hx1 HB.out hH).mono ?_; rintro e w2 ⟨rfl, rfl⟩)
      go_roundw
      case rel => exact ⟨k + 1, by omega, by go_num, hsucc, hbel.setCell (Nat.le_refl _) _, by simpa using hsz⟩
      case measure => simp [intOf]; omega
    · go_wp2_with fail
      obtain rfl : k = len := by omega
      rw [List.take_of_length_le (by rw [HL.out]; exact Nat.le_refl _)] at hH
      obtain ⟨wo, rfl⟩ : ∃ wo : World, wo = wr := ⟨_, rfl⟩
      clear hlt
      go_loopw [2, 20] (fun v i wr => ∃ k : Nat, k ≤ 160 ∧ i = .int .i64 k ∧ wr.ownsRow (w.heap.size + 1) 28 1 v k (firsts zs k) ∧ Hist wr w.heap.size (cnt zs) ∧ Below w.heap.size w wr ∧ w.heap.size < wr.heap.size) (fun _ i _ => 160 - (intOf i).toNat)
      case atStart => exact ⟨0, Nat.zero_le _, rfl, World.ownsRow_nil _ _ _ _, hH, hbel, hsz⟩
      case round =>
        clear hH hbel hsz
        obtain ⟨j, hj, rfl, hown, hH, hbel, hsz⟩ := hrel
        by_cases hlt : j < 160
        · have hcj := (hH j (by omega)).1
          go_wp2_with (first
            | (go_at_call 32; refine (load_any _ _ _ _ hcj).mono ?_; rintro e w2 ⟨rfl, rfl⟩)
            | (at_builtin; refine wpList_append_own _ rfl _ _ 27 rfl (w.heap.size + 1) 28 i0 (.int .u64 0) 1 8 Try.underlying27 hi hz0 hz1 hz2 rfl (by decide) _ _ _ rfl (hown.alloc _) ⟨wr.heap.size, 0, none⟩ 1 1 [.int .u64 (cnt zs j : Int)] rfl rfl ?c1 ?c2 ?c3 ?c4 ?c5 ?_))
          case c1 =>
            intro t u ht
            match t, ht with
            | 0, ht => simp at ht; subst ht; simp [Addr.add]
          case c2 => intro u hu; simp at hu; subst hu; rfl
          case c3 => unfold maxLen; omega
          case c4 => omega
          case c5 => simp; omega
          · intro v' w1 hown' hgrow _
            have R := rel_append hown hH hbel hsz hown' hgrow
            clear hown' hgrow hown hH hbel hsz hcj
            go_wp2_with fail
            go_roundw
            case rel => exact ⟨j + 1, by omega, by go_num, R.1, R.2.1, R.2.2.1, R.2.2.2⟩
            case measure => simp [intOf]; omega
        · obtain rfl : j = 160 := by omega
          have h160 := (hH 160 (by omega)).1
          have h161 := (hH 161 (by omega)).1
          obtain ⟨g, cp, hv, hg0, hg1, hgc⟩ := owned_cells hown
          have HV := Lib.hid hv
          have HG := Lib.hid hgc
          clear hv hgc hown hH hlt
          go_wp2_with fail
          go_quiet ((first | (go_at_call 32; with_reducible exact load_q _ 160 _ _ _ h160) | (go_at_call 32; with_reducible exact load_q _ 161 _ _ _ h161)))
          go_wp2_with fail
          go_ret3
          exact ⟨g, cp, congrArg (fun v => Ending.returned (Value.tuple #[v, .int .u64 (cnt zs 160 : Int), .int .u64 (cnt zs 161 : Int)])) HV.out, by omega, hg1, HG.out, below_drewN hbel _⟩
/-- histogram.Record: the counts, over whatever list of int64s that lies in memory. -/
theorem hrec_any (b off cap : Nat) (zs : List Int) (w : World) (hb : b < w.heap.size) (hlen : zs.length ≤ 1000000000)
    (hc : ∀ i, i < zs.length → w.cell? ⟨b, off + i, none⟩ = some (.int .i64 (zs.getD i 0)))
    (hwf : ∀ i, i < zs.length → -9223372036854775808 ≤ zs.getD i 0 ∧ zs.getD i 0 ≤ 9223372036854775807) :
    Calls Try.prog 26 #[.slice (some ⟨b, off, none⟩) zs.length cap] w (Counted w zs) :=
  hrec_len b off cap zs.length zs (Lib.hid rfl) w hb hlen (Lib.hid hc) (Lib.hid hwf)
end Go.Proofs.Ytbdcpfpoohadaaa
