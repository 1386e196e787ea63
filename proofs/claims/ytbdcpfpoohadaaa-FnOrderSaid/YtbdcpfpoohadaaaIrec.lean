/- The contract of impl.Record: the counts of the list that came in. -/
import Derived.Test.YtbdcpfpoohadaaaHrec
import Derived.Laws.AppendOwnNone
namespace Go.Proofs.Ytbdcpfpoohadaaa
open Go.RowKit

/-- The list's counts, as impl.Record hands them back: a struct with a slice of the call's own, and two numbers. -/
def CountedS (w : World) (zs : List Int) (e : Ending) (w' : World) : Prop :=
  ∃ g cap : Nat, e = .returned (.agg #[.slice (some ⟨g, 0, none⟩) 160 cap, .int .u64 (cnt zs 160 : Int), .int .u64 (cnt zs 161 : Int)]) ∧
    w.heap.size ≤ g ∧ g < w'.heap.size ∧ (∀ i, i < 160 → w'.cell? ⟨g, i, none⟩ = some (.int .u64 (cnt zs i : Int))) ∧ Below w.heap.size w w'

theorem Try.info2 : (Try.prog.info? 2).map (fun i => (i.zero, i.size, i.bytes)) = some (some (.int .i64 0), 1, 8) := by kernel_rfl

/-- A slice that owns a list of numbers, opened. -/
theorem owned_ints {w : World} {base n : Nat} {v : Value} {zs : List Int} (hl : zs.length = n) (h : w.ownsRow base 2 1 v n (zs.map (Value.int .i64))) (hv : v ≠ .slice none 0 0) :
    ∃ g cap : Nat, v = .slice (some ⟨g, 0, none⟩) n cap ∧ base ≤ g ∧ g < w.heap.size ∧ ∀ i, i < n → w.cell? ⟨g, 0 + i, none⟩ = some (.int .i64 (zs.getD i 0)) := by
  have h0 := h
  rcases h.2 with ⟨h1, _⟩ | ⟨g, cap, cur, rfl, hb, _⟩
  · exact absurd h1 hv
  · refine ⟨g, cap, rfl, hb, (h0.lt g rfl).2, fun i hi => ?_⟩
    rw [Nat.zero_add, h0.cellAt i (by omega)]
    have : i < zs.length := by omega
    simp [List.getD_eq_getElem?_getD, this]

def zeroS : Array Value := #[.slice none 0 0, .int .u64 0, .int .u64 0]

theorem own_empty (w : World) (o : Obj) : ((w.alloc o).alloc (.cells #[] 2)).ownsRow (w.heap.size + 1) 2 1 (.slice (some ⟨w.heap.size + 1, 0, none⟩) 0 0) 0 [] := by
  have h := World.ownsRow_lit (base := w.heap.size + 1) (e := 2) (size := 1) (w.alloc o) #[] 0 (by simp) (by unfold maxLen; omega) rfl
  simpa using h

/-- The result's own block behind the copy of the list and the call. -/
theorem result_block {w w1 w2 : World} (hg : ((w.alloc (.cells #[.slice none 0 0, .int .u64 0, .int .u64 0] 30)).alloc (.cells #[] 2)).grownBy w1 (some (w.heap.size + 1))) (hb : Below w1.heap.size w1 w2) :
    w2.heap[w.heap.size]? = some (.cells #[.slice none 0 0, .int .u64 0, .int .u64 0] 30 (0, 0)) := by
  have h1 : w1.heap[w.heap.size]? = ((w.alloc (.cells #[.slice none 0 0, .int .u64 0, .int .u64 0] 30)).alloc (.cells #[] 2)).heap[w.heap.size]? :=
    hg.block w.heap.size (by simp; omega) (by simp)
  have h2 : w.heap.size < w1.heap.size := by have := hg.size; simp at this; omega
  rw [hb.block _ h2, h1, Below.heap_alloc _ _ _ (by simp)]
  exact heap_alloc_new w _

theorem cell_lt {w : World} {a : Addr} {v : Value} (h : w.cell? a = some v) : a.block < w.heap.size := by
  unfold World.cell? at h
  split at h
  · rename_i hb
    exact (Array.getElem?_eq_some_iff.1 hb).1
  · cases h

theorem cell_of_block {w : World} {b : Nat} {cs : Array Value} {t : TypeId} (h : w.heap[b]? = some (.cells cs t (0, 0))) (j : Nat) : w.cell? ⟨b, j, none⟩ = cs[j]? ∧ w.frozen? ⟨b, j, none⟩ = false := by
  refine ⟨cell_of_row w b j cs t (0, 0) h, ?_⟩
  simp [World.frozen?, h]

set_option maxRecDepth 100000 in
set_option maxHeartbeats 400000 in
theorem irec_len (ad : Addr) (cap len : Nat) (zs : List Int) (HL : Hid (zs.length = len)) (w : World) (hlen : len ≤ 1000000000)
    (HC : Hid (∀ i, i < len → w.cell? (ad.add i) = some (.int .i64 (zs.getD i 0))))
    (HW : Hid (∀ i, i < len → -9223372036854775808 ≤ zs.getD i 0 ∧ zs.getD i 0 ≤ 9223372036854775807)) :
    Calls Try.prog 15 #[.slice (some ad) len cap] w (CountedS w zs) := by
  obtain ⟨i0, hi, hz0, hz1, hz2⟩ := info_parts Try.info2
  have HO := own_empty w
  go_enter Try.func15, Try.ntmps15
  go_wp2_with (at_builtin; refine wpList_append_own _ rfl _ _ 26 rfl (w.heap.size + 1) 2 i0 (.int .i64 0) 1 8 Try.underlying26 hi hz0 hz1 hz2 rfl (by decide) _ _ _ rfl (HO _) ad len cap (zs.map (Value.int .i64)) rfl ?c0 ?c1 ?c2 ?c3 ?c4 ?c5 ?_)
  case c0 => simp [HL.out]
  case c1 =>
    intro j u hj
    have hlt : j < len := by
      have := (List.getElem?_eq_some_iff.1 hj).1
      rw [List.length_map, HL.out] at this
      exact this
    have hu : u = .int .i64 (zs.getD j 0) := by
      have h2 : j < zs.length := by rw [HL.out]; exact hlt
      simp [h2] at hj
      simp [← hj, List.getD_eq_getElem?_getD, h2]
    rw [hu]
    have h3 := HC.out j hlt
    have hb : Below w.heap.size w ((w.alloc (.cells #[.slice none 0 0, .int .u64 0, .int .u64 0] 30)).alloc (.cells #[] 2)) := ((Below.refl _ _).alloc (Nat.le_refl _) _).alloc (by simp) _
    exact (hb.cell (cell_lt h3)).trans h3
  case c2 => exact ints_oneCell _ _
  case c3 => unfold maxLen; omega
  case c4 => omega
  case c5 => simp
  · intro v' w1 hown hgrow hne
    obtain ⟨g, cp, hv, hg0, hg1, hgc⟩ := owned_ints HL.out hown hne
    have HC1 := Lib.hid hgc
    have hbw : Below w.heap.size w w1 := (((Below.refl _ _).alloc (Nat.le_refl _) _).alloc (by simp) _).grown hgrow (by simp; omega) (by intro k hk; simp [Value.ownBlock] at hk; omega)
    have hsz : w.heap.size < w1.heap.size := by have := hgrow.size; simp at this; omega
    have HG := Lib.hid hgrow
    rw [hv]
    clear hown hgrow hne hgc hv HO hi hz0 hz1 hz2
    go_wp2_with fail
    refine (hrec_len g 0 cp len zs HL w1 hg1 hlen HC1 HW).mono ?_
    rintro e w2 ⟨g2, cp2, rfl, hg20, hg21, hc2, hb2⟩
    have hR := result_block HG.out hb2
    obtain ⟨r0, f0⟩ := cell_of_block hR 0
    obtain ⟨r1, f1⟩ := cell_of_block hR 1
    obtain ⟨r2, f2⟩ := cell_of_block hR 2
    have HC2 := Lib.hid hc2
    clear hc2 hR
    simp at r0 r1 r2
    go_wp2_with fail
    refine bodyPost_ret (v := .agg #[.slice (some ⟨g2, 0, none⟩) 160 cp2, .int .u64 (cnt zs 160 : Int), .int .u64 (cnt zs 161 : Int)]) (by simp [results, Try.results15, go_sem, r0, r1, r2]) rfl ⟨g2, cp2, rfl, by omega, by simpa using hg21, ?_, ?_⟩
    · intro i hi
      rw [World.cell?_setCell_other _ _ _ _ (by simp), World.cell?_setCell_other _ _ _ _ (by simp), World.cell?_setCell_other _ _ _ _ (by simp)]
      exact HC2.out i hi
    · exact (((hbw.trans (hb2.mono (by omega))).setCell (Nat.le_refl _) _).setCell (Nat.le_refl _) _).setCell (Nat.le_refl _) _
set_option maxRecDepth 100000 in
set_option maxHeartbeats 400000 in
theorem irec_nil (w : World) : Calls Try.prog 15 #[.slice none 0 0] w (CountedS w []) := by
  obtain ⟨i0, hi, hz0, hz1, hz2⟩ := info_parts Try.info2
  have HO := own_empty w
  go_enter Try.func15, Try.ntmps15
  go_wp2_with (at_builtin; refine wpList_append_own_none rfl _ _ 26 rfl (w.heap.size + 1) 2 i0 1 Try.underlying26 hi _ _ _ rfl (HO _) rfl ?_)
  clear HO hi hz0 hz1 hz2
  refine (hrec_len (w.heap.size + 1) 0 0 0 [] (Lib.hid rfl) _ (by simp) (by omega) (Lib.hid (fun i hi => absurd hi (by omega))) (Lib.hid (fun i hi => absurd hi (by omega)))).mono ?_
  rintro e w2 ⟨g2, cp2, rfl, hg20, hg21, hc2, hb2⟩
  have hR := result_block (World.grownBy.refl _ _) hb2
  obtain ⟨r0, f0⟩ := cell_of_block hR 0
  obtain ⟨r1, f1⟩ := cell_of_block hR 1
  obtain ⟨r2, f2⟩ := cell_of_block hR 2
  have HC2 := Lib.hid hc2
  have hbw : Below w.heap.size w w2 := ((((Below.refl _ _).alloc (Nat.le_refl _) _).alloc (by simp) _)).trans (hb2.mono (by simp; omega))
  have hg22 : w.heap.size + 2 ≤ g2 := by simpa using hg20
  clear hc2 hR hb2 hg20
  simp at r0 r1 r2
  go_wp2_with fail
  refine bodyPost_ret (v := .agg #[.slice (some ⟨g2, 0, none⟩) 160 cp2, .int .u64 (cnt [] 160 : Int), .int .u64 (cnt [] 161 : Int)]) (by simp [results, Try.results15, go_sem, r0, r1, r2]) rfl ⟨g2, cp2, rfl, by omega, by simpa using hg21, ?_, ?_⟩
  · intro i hi
    rw [World.cell?_setCell_other _ _ _ _ (by simp), World.cell?_setCell_other _ _ _ _ (by simp), World.cell?_setCell_other _ _ _ _ (by simp)]
    exact HC2.out i hi
  · exact ((hbw.setCell (Nat.le_refl _) _).setCell (Nat.le_refl _) _).setCell (Nat.le_refl _) _

end Go.Proofs.Ytbdcpfpoohadaaa
