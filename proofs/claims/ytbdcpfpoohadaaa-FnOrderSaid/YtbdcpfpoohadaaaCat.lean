/- append of a list that came in onto a slice of the call's own, as one law; impl.Record of such a slice. -/
import Derived.Test.YtbdcpfpoohadaaaArg
namespace Go.Proofs.Ytbdcpfpoohadaaa
open Go.RowKit

theorem cnt_append (a b : List Int) (i : Nat) : cnt (a ++ b) i = cnt a i + cnt b i := by
  unfold cnt
  rw [List.countP_append]

theorem row_cells {w : World} {x : Addr} {len cap : Nat} {zs : List Int} (hle : len ≤ cap) (hz : zs.length = cap) (hc : ∀ i, i < zs.length → w.cell? (x.add i) = some (.int .i64 (zs.getD i 0))) (j : Nat) (u : Value)
    (hj : ((zs.take len).map (Value.int .i64))[j]? = some u) : w.cell? (x.add j) = some u := by
  obtain ⟨h1, h2⟩ := List.getElem?_eq_some_iff.1 hj
  rw [List.length_map, List.length_take] at h1
  have h3 : j < zs.length := by omega
  rw [hc j h3, ← h2]
  simp [List.getD_eq_getElem?_getD, h3]

/-- 'append(v, xs...)', v the call's own, xs a list that came in, nil or not. -/
theorem wpList_append_row {w : World} {ops : Array Oper} {rest : List Oper} {o : Oper} {a : Act} {Q : Exit → Act → World → Prop} (hgd : o.guard = none) (s x : Operand)
    (ho : o.op = .call { callee := .builtin .append, args := #[s, x], argTypes := #[26, 26] }) (base : Nat) (v : Value) (n : Nat) (xs : List Value) (hs : a.eval s = v) (hown : w.ownsRow base 2 1 v n xs)
    (ad : Option Addr) (len cap : Nat) (zs : List Int) (hx : a.eval x = .slice ad len cap) (hr : IsRow .i64 w ad len cap zs) (h63 : n + len ≤ 4000000000) (hbase : base ≤ w.heap.size) (hne : v ≠ .slice none 0 0)
    (h : ∀ v' w', w'.ownsRow base 2 1 v' (n + len) (xs ++ (zs.take len).map (Value.int .i64)) → w.grownBy w' v.ownBlock → v' ≠ .slice none 0 0 → wpList Try.prog ops Q rest (a.put o.dst v') w') :
    wpList Try.prog ops Q (o :: rest) a w := by
  obtain ⟨i0, hi, hz0, hz1, hz2⟩ := info_parts Try.info2
  have hl := row_length hr
  rcases hr with ⟨rfl, rfl, rfl, rfl⟩ | ⟨x0, rfl, h1, h2, h3, h4, h5⟩
  · refine wpList_append_own_none hgd s x 26 ho base 2 i0 1 Try.underlying26 hi v n xs hs hown hx ?_
    exact h v w (by simpa using hown) (World.grownBy.refl _ _) hne
  · refine wpList_append_own w hgd s x 26 ho base 2 i0 (.int .i64 0) 1 8 Try.underlying26 hi hz0 hz1 hz2 rfl (by decide) v n xs hs hown x0 len cap ((zs.take len).map (Value.int .i64)) hx
      (by rw [List.length_map, hl, Nat.mul_one]) (row_cells h1 h3 h4) (ints_oneCell _ _) (by unfold maxLen; omega) (by omega) hbase ?_
    intro v' w' g1 g2 g3
    exact h v' w' g1 g2 (fun e => hne (g3.1 e).1)

theorem getD_wf {l : List Int} (h : ∀ z ∈ l, -9223372036854775808 ≤ z ∧ z ≤ 9223372036854775807) (i : Nat) (hi : i < l.length) : -9223372036854775808 ≤ l.getD i 0 ∧ l.getD i 0 ≤ 9223372036854775807 := by
  have e : l.getD i 0 = l[i] := by simp [List.getD_eq_getElem?_getD, hi]
  rw [e]
  exact h _ (List.getElem_mem hi)

theorem row_mem {w : World} {a : Option Addr} {len cap : Nat} {zs : List Int} (h : IsRow .i64 w a len cap zs) : ∀ z ∈ zs.take len, -9223372036854775808 ≤ z ∧ z ≤ 9223372036854775807 := by
  intro z hz
  rcases h with ⟨_, _, _, rfl⟩ | ⟨x, _, _, _, _, _, h3⟩
  · simp at hz
  · exact wf_bd (h3 z (List.mem_of_mem_take hz))

/-- impl.Record of a slice of the caller's own. -/
theorem irec_own (v : Value) (n : Nat) (zs : List Int) (w : World) (base : Nat) (hl : zs.length = n) (hown : w.ownsRow base 2 1 v n (zs.map (Value.int .i64))) (hne : v ≠ .slice none 0 0) (hlen : n ≤ 1000000000)
    (hw : ∀ i, i < n → -9223372036854775808 ≤ zs.getD i 0 ∧ zs.getD i 0 ≤ 9223372036854775807) :
    Calls Try.prog 15 #[v] w (CountedS w zs) := by
  have h0 := hown
  rcases hown.2 with ⟨h1, _⟩ | ⟨g, cap, cur, rfl, hb, _⟩
  · exact absurd h1 hne
  · refine irec_len ⟨g, 0, none⟩ cap n zs (Lib.hid hl) w hlen (Lib.hid fun i hi => ?_) (Lib.hid hw)
    refine h0.cells rfl i _ ?_
    have : i < zs.length := by omega
    simp [List.getD_eq_getElem?_getD, this]
end Go.Proofs.Ytbdcpfpoohadaaa
