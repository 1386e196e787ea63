/- slices.Clone, slices.Reverse and slices.Sort at lists of int64s, as far as FnOrder needs them: a copy of the caller's own; the same numbers in another order. -/
import Derived.Test.YtbdcpfpoohadaaaCat
import Derived.Test.YtbdcpfpoohadaaaShelf2
import Derived.Lib.SliceRun
namespace Go.Proofs.Ytbdcpfpoohadaaa
open Go.RowKit Go.Sort

/-- The value v is nil and l empty, or v leads to a row of the call's own, from block base on, whose cells hold l and may be written. -/
def Own (w : World) (base : Nat) (v : Value) (l : List Int) : Prop :=
  (v = .slice none 0 0 ∧ l = []) ∨
  ∃ g cap, v = .slice (some ⟨g, 0, none⟩) l.length cap ∧ base ≤ g ∧ g < w.heap.size ∧ Holds (Value.int .i64) w g 0 l.toArray

theorem own_of_row {w : World} {base n : Nat} {v : Value} {l : List Int} (hl : l.length = n) (h : w.ownsRow base 2 1 v n (l.map (Value.int .i64))) : Own w base v l := by
  subst hl
  have h0 := h
  rcases h.2 with ⟨h1, h2⟩ | ⟨g, cap, cur, rfl, hb, _⟩
  · exact .inl ⟨h1, List.length_eq_zero_iff.1 h2⟩
  · refine .inr ⟨g, cap, rfl, hb, (h0.lt g rfl).2, fun j hj => ?_⟩
    have hj' : j < l.length := by simpa using hj
    rw [Nat.zero_add]
    refine ⟨?_, h0.frozenAt j⟩
    rw [h0.cellAt j (by omega)]
    simp [hj']

theorem own_kept {w w' : World} {base B : Nat} {v : Value} {l : List Int} (h : Own w base v l) (hb : Below B w w') (hB : w.heap.size ≤ B) : Own w' base v l := by
  rcases h with h | ⟨g, cap, h1, h2, h3, h4⟩
  · exact .inl h
  · exact .inr ⟨g, cap, h1, h2, by have := hb.size; omega, fun j hj => ⟨(hb.cell (p := ⟨g, 0 + j, none⟩) (by simp; omega)).trans (h4 j hj).1, (hb.frozen (p := ⟨g, 0 + j, none⟩) (by simp; omega)).trans (h4 j hj).2⟩⟩

set_option maxRecDepth 100000 in
set_option maxHeartbeats 400000 in
/-- slices.Clone: a copy of the call's own. -/
theorem clone_row (a : Option Addr) (len cap : Nat) (zs : List Int) (w : World) (hr : IsRow .i64 w a len cap zs) (hlen : len ≤ 1000000000) :
    Calls Try.prog 22 #[.slice a len cap] w fun e w' => ∃ v, e = .returned v ∧ Own w' w.heap.size v (zs.take len) ∧ Below w.heap.size w w' := by
  have hl := row_length hr
  have HR := Lib.hid hr
  have HL := Lib.hid hl
  have q22 : ∀ (w : World) (a : Option Addr) (n c n' c' : Nat), (binOp .eql 26 (.slice a n c) (.slice none n' c')).run Try.prog w = .ok (.bool a.isNone) w := fun w a n c n' c' => Lib.run_eql_slice_nil w _ _ a n c n' c' Try.underlying26
  clear hl
  rcases hr with ⟨rfl, rfl, rfl, rfl⟩ | ⟨x, rfl, _⟩
  · go_enter Try.func22, Try.ntmps22
    go_wp2_with fail
    go_ret
    exact ⟨_, rfl, .inl ⟨rfl, rfl⟩, Below.refl _ _⟩
  · have HO : (w.alloc (.cells #[] 2)).ownsRow w.heap.size 2 1 (.slice (some ⟨w.heap.size, 0, none⟩) 0 0) 0 [] :=
      World.ownsRow_lit (base := w.heap.size) (e := 2) (size := 1) w #[] 0 (Nat.le_refl _) (by unfold maxLen; omega) rfl
    have hB : Below w.heap.size w (w.alloc (.cells #[] 2)) := (Below.refl _ _).alloc (Nat.le_refl _) _
    go_enter Try.func22, Try.ntmps22
    go_wp2_with (at_builtin; refine wpList_append_row rfl (.tmp 5) (.tmp 6) rfl w.heap.size (.slice (some ⟨w.heap.size, 0, none⟩) 0 0) 0 [] rfl HO (some x) len cap zs rfl (row_below HR.out hB) (by omega) (by simp) (by simp) ?_)
    intro v1 w1 ho1 hg1 hn1
    have hB1 : Below w.heap.size w w1 := hB.grown hg1 (by simp) (by intro k hk; simp [Value.ownBlock] at hk; omega)
    have HO1 : Hid (w1.ownsRow w.heap.size 2 1 v1 len ((zs.take len).map (Value.int .i64))) := Lib.hid (by rw [List.map_take]; exact ho1)
    clear ho1 hg1 hn1 HO hB
    go_wp2_with fail
    go_ret
    exact ⟨_, rfl, own_of_row HL.out HO1.out, hB1⟩

theorem below_put (w : World) (g n : Nat) (d : Array Int) (base : Nat) (hb : base ≤ g) : Below base w (putRow (Value.int .i64) (Sort.ahead w n) g 0 d) := by
  refine ⟨rfl, rfl, rfl, ?_, fun k hk => ?_⟩
  · simp [putRow, mapBlock, Sort.ahead]
  · simp only [putRow, mapBlock, Sort.ahead, Array.getElem?_modify]
    rw [if_neg (by omega)]

theorem holds_put {w : World} {g : Nat} {d0 : Array Int} (h : Holds (Value.int .i64) w g 0 d0) (n : Nat) (d : Array Int) (hs : d.size = d0.size) : Holds (Value.int .i64) (putRow (Value.int .i64) (Sort.ahead w n) g 0 d) g 0 d :=
  holds_putRow (Value.int .i64) (Sort.ahead w n) g 0 d0 d h hs

/-- slices.Reverse: the same numbers, from the last to the first. -/
theorem reverse_own (v : Value) (l : List Int) (w : World) (base : Nat) (h : Own w base v l) (hlen : l.length ≤ 1000000000) :
    Calls Try.prog 23 #[v] w fun e w' => e = .returned (.tuple #[]) ∧ Own w' base v l.reverse ∧ Below base w w' := by
  rcases h with ⟨rfl, rfl⟩ | ⟨g, cap, rfl, hb, hg, hH⟩
  · refine (Try.slices_Reverse_empty (α := Int) none 0 w).mono fun e w' ⟨he, hw⟩ => ?_
    subst hw
    exact ⟨he, .inl ⟨rfl, rfl⟩, Below.refl _ _⟩
  · refine (Try.slices_Reverse (Value.int .i64) (fun _ => rfl) g 0 cap l w hH (by omega)).mono fun e w' ⟨he, n, hw⟩ => ?_
    have hB := below_put w g n l.reverse.toArray base hb
    have hP := holds_put hH n l.reverse.toArray (by simp)
    rw [← hw] at hB hP
    exact ⟨he, .inr ⟨g, cap, by rw [List.length_reverse], hb, by have := hB.size; omega, hP⟩, hB⟩

/-- slices.Sort: the same numbers in some order. -/
theorem sort_own (v : Value) (l : List Int) (w : World) (base : Nat) (h : Own w base v l) (hlen : l.length ≤ 1000000000) (hbase : base ≤ w.heap.size) :
    Calls Try.prog 24 #[v] w fun e w' => e = .returned (.tuple #[]) ∧ Own w' base v (l.mergeSort fun x y => decide (x ≤ y)) ∧ Below base w w' := by
  rcases h with ⟨rfl, rfl⟩ | ⟨g, cap, rfl, hb, hg, hH⟩
  · refine (Try.slices_Sort_int_none none 0 w).mono fun e w' ⟨he, hw⟩ => ?_
    subst hw
    exact ⟨he, .inl ⟨rfl, by simp⟩, Below.refl _ _⟩
  · refine (Try.slices_Sort_int g 0 cap l w hH hg (by omega)).mono fun e w' ⟨he, n, os, hw⟩ => ?_
    have hB := below_put w g n (l.mergeSort fun x y => decide (x ≤ y)).toArray base hb
    have hP := holds_put hH n (l.mergeSort fun x y => decide (x ≤ y)).toArray (by simp)
    generalize hW : putRow (Value.int .i64) (Sort.ahead w n) g 0 (l.mergeSort fun x y => decide (x ≤ y)).toArray = W at hw hB hP
    have hgW : g < W.heap.size := by have := hB.size; omega
    have hG : Below base W (grow W os) := ⟨rfl, rfl, rfl, by simp, fun k hk => heap_grow_old W os (by have := hB.size; omega)⟩
    have hP2 := holds_grow (Value.int .i64) W os g 0 _ hgW hP
    rw [← hw] at hG hP2
    exact ⟨he, .inr ⟨g, cap, by rw [List.length_mergeSort], hb, by have := hG.size; omega, hP2⟩, hB.trans hG⟩

theorem cnt_perm {l m : List Int} (h : l.Perm m) (i : Nat) : cnt l i = cnt m i := h.countP_eq _

theorem countedS_congr {w w' : World} {l m : List Int} {e : Ending} (h : ∀ i, cnt l i = cnt m i) (hc : CountedS w l e w') : CountedS w m e w' := by
  obtain ⟨g, cap, h1, h2, h3, h4, h5⟩ := hc
  exact ⟨g, cap, by rw [← h 160, ← h 161]; exact h1, h2, h3, fun i hi => by rw [← h i]; exact h4 i hi, h5⟩

/-- impl.Record of a list of the caller's own. -/
theorem irec_own2 (v : Value) (l : List Int) (w : World) (base : Nat) (h : Own w base v l) (hlen : l.length ≤ 1000000000) (hw : ∀ z ∈ l, -9223372036854775808 ≤ z ∧ z ≤ 9223372036854775807) :
    Calls Try.prog 15 #[v] w (CountedS w l) := by
  rcases h with ⟨rfl, rfl⟩ | ⟨g, cap, rfl, hb, hg, hH⟩
  · exact irec_nil w
  · refine irec_len ⟨g, 0, none⟩ cap l.length l (Lib.hid rfl) w hlen (Lib.hid fun i hi => ?_) (Lib.hid fun i hi => getD_wf hw i hi)
    rw [Go.WideShapes.add_plain]
    have := (hH i (by simpa using hi)).1
    rw [this]
    simp [hi]
end Go.Proofs.Ytbdcpfpoohadaaa
