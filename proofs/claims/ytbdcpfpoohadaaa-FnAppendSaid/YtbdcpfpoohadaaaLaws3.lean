/- The walk of FnAppend. -/
import Derived.Test.YtbdcpfpoohadaaaCat
namespace Go.Proofs.Ytbdcpfpoohadaaa
open Go.RowKit

theorem below_alloc2 (w : World) (o : Obj) : Below w.heap.size w (w.alloc o) := (Below.refl _ _).alloc (Nat.le_refl _) _

theorem own_fresh (w : World) : (w.alloc (.cells #[] 2)).ownsRow w.heap.size 2 1 (.slice (some ⟨w.heap.size, 0, none⟩) 0 0) 0 [] :=
  World.ownsRow_lit (base := w.heap.size) (e := 2) (size := 1) w #[] 0 (Nat.le_refl _) (by unfold maxLen; omega) rfl

/-- What is counted is there in a later world, too. -/
theorem counted_below {w w' : World} {g : Nat} {l : List Int} (hg : g < w.heap.size) (hc : ∀ i, i < 160 → w.cell? ⟨g, i, none⟩ = some (.int .u64 (cnt l i : Int))) (hb : Below w.heap.size w w') :
    ∀ i, i < 160 → w'.cell? ⟨g, i, none⟩ = some (.int .u64 (cnt l i : Int)) := fun i hi => (hb.cell (p := ⟨g, i, none⟩) hg).trans (hc i hi)

set_option maxRecDepth 100000 in
set_option maxHeartbeats 400000 in
theorem append_big (a0 b0 : Option Addr) (la ca lb cb : Nat) (h : 1048576 < la ∨ 1048576 < lb) (ha : la ≤ 9223372036854775807) (hb : lb ≤ 9223372036854775807) (w : World) :
    Calls Try.prog 4 #[.slice a0 la ca, .slice b0 lb cb] w fun e w' => e = .returned (.bool true) ∧ Below w.heap.size w w' := by
  by_cases c1 : 2147483647 < la
  · go_enter Try.func4, Try.ntmps4
    go_wp2_with fail
    go_ret
    exact ⟨rfl, Below.refl _ _⟩
  by_cases c2 : 2147483647 < lb
  · go_enter Try.func4, Try.ntmps4
    go_wp2_with fail
    go_ret
    exact ⟨rfl, Below.refl _ _⟩
  by_cases c3 : 1048576 < la
  · clear h
    go_enter Try.func4, Try.ntmps4
    go_wp2_with fail
    go_ret
    exact ⟨rfl, Below.refl _ _⟩
  · have c4 : 1048576 < lb := by omega
    clear h
    go_enter Try.func4, Try.ntmps4
    go_wp2_with fail
    go_ret
    exact ⟨rfl, Below.refl _ _⟩

set_option maxRecDepth 100000 in
set_option maxHeartbeats 1000000 in
theorem append_small (a0 b0 : Option Addr) (la ca lb cb : Nat) (za zb : List Int) (hla : la ≤ 1048576) (hlb : lb ≤ 1048576) (w : World) (ra : IsRow .i64 w a0 la ca za) (rb : IsRow .i64 w b0 lb cb zb) :
    Calls Try.prog 4 #[.slice a0 la ca, .slice b0 lb cb] w fun e w' => e = .returned (.bool true) ∧ Below w.heap.size w w' := by
  have RA := Lib.hid ra
  have RB := Lib.hid rb
  clear ra rb
  go_enter Try.func4, Try.ntmps4
  go_wp2_with fail
  refine (irec_row a0 la ca za w RA.out (by omega)).mono ?_
  rintro e w1 ⟨g1, cp1, rfl, hg0, hg1, hcs1, hb1⟩
  have HC1 := Lib.hid hcs1
  clear hcs1
  have RB1 := Lib.hid (row_below RB.out hb1)
  go_wp2_with fail
  refine (irec_row b0 lb cb zb w1 RB1.out (by omega)).mono ?_
  rintro e w2 ⟨g2, cp2, rfl, hg20, hg21, hcs2, hb2⟩
  have hs2 := hb2.size
  have HC1' := Lib.hid (counted_below hg1 HC1.out hb2)
  have HC2 := Lib.hid hcs2
  have hb02 : Below w.heap.size w w2 := hb1.trans (hb2.mono hb1.size)
  have RA2 := Lib.hid (row_below (row_below RA.out hb1) hb2)
  have RB2 := Lib.hid (row_below RB1.out hb2)
  have hB2 := below_alloc2 w2 (.cells #[] 2)
  have HO := own_fresh w2
  clear hcs2
  go_wp2_with (at_builtin; refine wpList_append_row rfl (.tmp 30) (.tmp 31) rfl w2.heap.size (.slice (some ⟨w2.heap.size, 0, none⟩) 0 0) 0 [] rfl HO a0 la ca za rfl (row_below RA2.out hB2) (by omega) (by simp) (by simp) ?_)
  intro v3 w3 ho3 hg3 hn3
  have hB3 : Below w2.heap.size w2 w3 := hB2.grown hg3 (by simp) (by intro k hk; simp [Value.ownBlock] at hk; omega)
  have hz3 : w2.heap.size + 1 ≤ w3.heap.size := by have := hg3.size; simpa using this
  have hk3 := ho3.lt
  clear hg3 HO
  go_wp2_with (at_builtin; refine wpList_append_row rfl (.tmp 32) (.tmp 33) rfl w2.heap.size v3 la _ rfl ho3 b0 lb cb zb rfl (row_below RB2.out hB3) (by omega) (by omega) hn3 ?_)
  intro v4 w4 ho4 hg4 hn4
  have hB4 : Below w2.heap.size w2 w4 := hB3.grown hg4 (by omega) (fun k hk => (hk3 k hk).1)
  have hz4 : w2.heap.size + 1 ≤ w4.heap.size := by have := hg4.size; omega
  have ho4' : w4.ownsRow w2.heap.size 2 1 v4 (la + lb) ((za.take la ++ zb.take lb).map (Value.int .i64)) := by
    rw [List.map_append, List.map_take, List.map_take]
    exact ho4
  have HO4 := Lib.hid ho4'
  have HC1'' := Lib.hid (counted_below (by omega) HC1'.out hB4)
  have HC2'' := Lib.hid (counted_below hg21 HC2.out hB4)
  have hlen : (za.take la ++ zb.take lb).length = la + lb := by rw [List.length_append, row_length RA.out, row_length RB.out]
  have hwf : ∀ z ∈ za.take la ++ zb.take lb, -9223372036854775808 ≤ z ∧ z ≤ 9223372036854775807 := by
    intro z hz
    rcases List.mem_append.1 hz with hz | hz
    · exact row_mem RA.out z hz
    · exact row_mem RB.out z hz
  have hc3 := irec_own v4 (la + lb) (za.take la ++ zb.take lb) w4 w2.heap.size hlen ho4' hn4 (by omega) (fun i hi => getD_wf hwf i (by omega))
  generalize hA : za.take la = A at *
  generalize hBl : zb.take lb = B at *
  have hcat : ∀ i, cnt (A ++ B) i = cnt A i + cnt B i := cnt_append A B
  have hla2 : A.length = la := by rw [← hA]; exact row_length RA.out
  have hlb2 : B.length = lb := by rw [← hBl]; exact row_length RB.out
  have HA : Hid (∀ i, cnt A i ≤ la) := Lib.hid (fun i => by rw [← hla2]; exact cnt_le A i)
  have HB : Hid (∀ i, cnt B i ≤ lb) := Lib.hid (fun i => by rw [← hlb2]; exact cnt_le B i)
  have HCAT := Lib.hid hcat
  have H3 := Lib.hid hc3
  clear hg4 ho4 ho4' ho3 hk3 hlen hwf hc3 hcat hla2 hlb2 hA hBl
  go_wp2_with fail
  refine H3.out.mono ?_
  rintro e w5 ⟨g3, cp3, rfl, hg30, hg31, hcs3, hb5⟩
  have hs5 := hb5.size
  have HX := Lib.hid (counted_below (by omega) HC1''.out hb5)
  have HY := Lib.hid (counted_below (by omega) HC2''.out hb5)
  have HZ : Hid (∀ i, i < 160 → w5.cell? ⟨g3, i, none⟩ = some (.int .u64 ((cnt A i : Int) + (cnt B i : Int)))) := Lib.hid (fun i hi => by rw [hcs3 i hi, HCAT.out i, Int.natCast_add])
  have e160 : (cnt (A ++ B) 160 : Int) = (cnt A 160 : Int) + (cnt B 160 : Int) := by rw [HCAT.out, Int.natCast_add]
  have e161 : (cnt (A ++ B) 161 : Int) = (cnt A 161 : Int) + (cnt B 161 : Int) := by rw [HCAT.out, Int.natCast_add]
  have a160 := HA.out 160
  have b160 := HB.out 160
  have a161 := HA.out 161
  have b161 := HB.out 161
  have hb05 : Below w.heap.size w w5 := (hb02.trans (hB4.mono (by omega))).trans (hb5.mono (by omega))
  have l1 : g1 < w5.heap.size := by omega
  have l2 : g2 < w5.heap.size := by omega
  have l5 : w.heap.size ≤ w5.heap.size := by omega
  have l1a : g1 < w5.heap.size + 1 := by omega
  have l1b : g1 < w5.heap.size + 1 + 1 := by omega
  have l2a : g2 < w5.heap.size + 1 := by omega
  have l2b : g2 < w5.heap.size + 1 + 1 := by omega
  have l3a : g3 < w5.heap.size + 1 := by omega
  have l3b : g3 < w5.heap.size + 1 + 1 := by omega
  rw [e160, e161]
  clear hcs3 e160 e161 hB2 hB3 hB4 hb5 hb02 hb1 hb2 HC1 HC2 HC1' HC1'' HC2'' RA RB RB1 RA2 RB2 HO4 H3 hz3 hz4 hs5 hg20 hg21 hg30 hn3 hn4 hg0 hg1 hs2
  go_wp2_with fail
  go_loopw [55] (fun i wr => ∃ k : Nat, k ≤ 160 ∧ i = .int .i64 k ∧ ∃ n, wr = (((w5.alloc (.cells #[.slice (some ⟨g1, 0, none⟩) 160 cp1, .int .u64 (cnt A 160 : Int), .int .u64 (cnt A 161 : Int)] 30)).alloc (.cells #[.slice (some ⟨g2, 0, none⟩) 160 cp2, .int .u64 (cnt B 160 : Int), .int .u64 (cnt B 161 : Int)] 30)).alloc (.cells #[.slice (some ⟨g3, 0, none⟩) 160 cp3, .int .u64 ((cnt A 160 : Int) + (cnt B 160 : Int)), .int .u64 ((cnt A 161 : Int) + (cnt B 161 : Int))] 30)).drewN n) (fun i _ => 160 - (intOf i).toNat)
  case atStart => exact ⟨0, Nat.zero_le _, rfl, 0, rfl⟩
  case round =>
    obtain ⟨k, hk, rfl, n, rfl⟩ := hrel
    by_cases hlt : k < 160
    · have hx := HX.out k hlt
      have hy := HY.out k hlt
      have hz := HZ.out k hlt
      have ka := HA.out k
      have kb := HB.out k
      clear a160 a161 b160 b161
      go_wp2_with fail
      go_quiet (fail)
      go_wp2_with fail
      go_roundw
      case rel => exact ⟨k + 1, by omega, by go_num, _, rfl⟩
      case measure => simp [intOf]; omega
    · obtain rfl : k = 160 := by omega
      clear hlt
      go_wp2_with fail
      go_ret
      exact ⟨rfl, below_drewN (((hb05.alloc l5 _).alloc (by simp; omega) _).alloc (by simp; omega) _) _⟩
theorem append_walk (a0 b0 : Option Addr) (la ca lb cb : Nat) (za zb : List Int) (w : World) (ra : IsRow .i64 w a0 la ca za) (rb : IsRow .i64 w b0 lb cb zb) :
    Calls Try.prog 4 #[.slice a0 la ca, .slice b0 lb cb] w fun e w' => e = .returned (.bool true) ∧ Below w.heap.size w w' := by
  by_cases h : 1048576 < la ∨ 1048576 < lb
  · exact append_big a0 b0 la ca lb cb h (row_le ra) (row_le rb) w
  · exact append_small a0 b0 la ca lb cb za zb (by omega) (by omega) w ra rb
end Go.Proofs.Ytbdcpfpoohadaaa
