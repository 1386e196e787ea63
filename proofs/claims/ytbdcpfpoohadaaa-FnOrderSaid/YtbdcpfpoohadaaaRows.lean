/-
  No cell of these rows narrows 'for every input' (looked for: loops, veiled, ifaces, maps, wideKeys, modest, calm, conditions, laid).
  DERIVED. THE GIVEN ROWS OF THIS SEAT. 11 by the template 'for every input the law returns true; each argument reads behind the call as it read before'; 0 by the template 'total and deterministic' (their statements: YtbdcpfpoohadaaaTotals.lean).
  GIVEN WITH THE SEED: the statements are not yours to turn. If you find one false, say at which input.
  Laid BY PROGRAM, IN A SANDBOX (cutbox-rows.mjs): the forced cells as the released guide's own fill.sh prints them over the translation fc125d7e8991ec60… (all of the seat's roots in one cut). By AI agents, Wed Nov 11 2026. No macro, syntax, notation, axiom, sorry.
-/
import Derived.Test.YtbdcpfpoohadaaaChecked
import GoSem.Claim
import GoSem.ClaimJoined
import GoSem.ClaimMapViews
import Derived.JoinedTies
import Derived.KernelRfl
namespace Go.Proofs.Ytbdcpfpoohadaaa
/- THE CELL 'sum', in the pinned program and in every row, IS THE sha256 OF THE DUMP (.gsa) THAT YtbdcpfpoohadaaaProg.lean LOADS. Nothing in Lean hashes anything: it is a label: what it is worth is what the hold of that sum in a sandbox is worth. -/
noncomputable def Try.pinned : Pinned := { name := "ytbdcpfpoohadaaa", sum := "fc125d7e8991ec600d0f8b19dada492c6203e13e787283867bfe81c42ed9e455", checked := Try.checked }
namespace Rows
def none {H : Type} : Left H := { results := [], args := [] }

/-- 'laws.FnAscend': WHATEVER THE INPUT: true; the input reads as it did. -/
def fnAscendSpec : ChangeSpec := { name := "fnAscend", fn := fun _ => fun
  | [d] => { results := [.lit (.bool true)], args := [d] }
  | _ => none }
def fnAscendRow : OpenClaim := { program := "ytbdcpfpoohadaaa", sum := "fc125d7e8991ec600d0f8b19dada492c6203e13e787283867bfe81c42ed9e455", func := "loop.example/pub-timebuckets/laws.FnAscend", spec := "fnAscend", inPlace := ["math.Float64frombits"], apart := false }
def FnAscendSaid : Prop := fnAscendRow.holds Try.pinned (OpenSpec.ofChange fnAscendSpec)

/-- ITS FALSE NEIGHBOUR: 'it returns false'. Refute it at one input. -/
def fnAscendWrong : ChangeSpec := { name := "fnAscend", fn := fun _ => fun
  | [d] => { results := [.lit (.bool false)], args := [d] }
  | _ => none }
def FnAscendWrongFalsely : Prop := fnAscendRow.holds Try.pinned (OpenSpec.ofChange fnAscendWrong)

/-- 'laws.FnAppend': WHATEVER THE INPUT: true; the input reads as it did. -/
def fnAppendSpec : ChangeSpec := { name := "fnAppend", fn := fun _ => fun
  | [d1, d2] => { results := [.lit (.bool true)], args := [d1, d2] }
  | _ => none }
def fnAppendRow : OpenClaim := { program := "ytbdcpfpoohadaaa", sum := "fc125d7e8991ec600d0f8b19dada492c6203e13e787283867bfe81c42ed9e455", func := "loop.example/pub-timebuckets/laws.FnAppend", spec := "fnAppend", inPlace := ["sync/atomic.AddUint64", "sync/atomic.LoadUint64"], apart := false }
def FnAppendSaid : Prop := fnAppendRow.holds Try.pinned (OpenSpec.ofChange fnAppendSpec)

/-- ITS FALSE NEIGHBOUR: 'it returns false'. Refute it at one input. -/
def fnAppendWrong : ChangeSpec := { name := "fnAppend", fn := fun _ => fun
  | [d1, d2] => { results := [.lit (.bool false)], args := [d1, d2] }
  | _ => none }
def FnAppendWrongFalsely : Prop := fnAppendRow.holds Try.pinned (OpenSpec.ofChange fnAppendWrong)

/-- 'laws.FnExactLow': WHATEVER THE INPUT: true; the input reads as it did. -/
def fnExactLowSpec : ChangeSpec := { name := "fnExactLow", fn := fun _ => fun
  | [d] => { results := [.lit (.bool true)], args := [d] }
  | _ => none }
def fnExactLowRow : OpenClaim := { program := "ytbdcpfpoohadaaa", sum := "fc125d7e8991ec600d0f8b19dada492c6203e13e787283867bfe81c42ed9e455", func := "loop.example/pub-timebuckets/laws.FnExactLow", spec := "fnExactLow", inPlace := ["sync/atomic.AddUint64", "sync/atomic.LoadUint64"], apart := false }
def FnExactLowSaid : Prop := fnExactLowRow.holds Try.pinned (OpenSpec.ofChange fnExactLowSpec)

/-- ITS FALSE NEIGHBOUR: 'it returns false'. Refute it at one input. -/
def fnExactLowWrong : ChangeSpec := { name := "fnExactLow", fn := fun _ => fun
  | [d] => { results := [.lit (.bool false)], args := [d] }
  | _ => none }
def FnExactLowWrongFalsely : Prop := fnExactLowRow.holds Try.pinned (OpenSpec.ofChange fnExactLowWrong)

/-- 'laws.FnExactOne': WHATEVER THE INPUT: true; the input reads as it did. -/
def fnExactOneSpec : ChangeSpec := { name := "fnExactOne", fn := fun _ => fun
  | [d] => { results := [.lit (.bool true)], args := [d] }
  | _ => none }
def fnExactOneRow : OpenClaim := { program := "ytbdcpfpoohadaaa", sum := "fc125d7e8991ec600d0f8b19dada492c6203e13e787283867bfe81c42ed9e455", func := "loop.example/pub-timebuckets/laws.FnExactOne", spec := "fnExactOne", inPlace := ["sync/atomic.AddUint64", "sync/atomic.LoadUint64"], apart := false }
def FnExactOneSaid : Prop := fnExactOneRow.holds Try.pinned (OpenSpec.ofChange fnExactOneSpec)

/-- ITS FALSE NEIGHBOUR: 'it returns false'. Refute it at one input. -/
def fnExactOneWrong : ChangeSpec := { name := "fnExactOne", fn := fun _ => fun
  | [d] => { results := [.lit (.bool false)], args := [d] }
  | _ => none }
def FnExactOneWrongFalsely : Prop := fnExactOneRow.holds Try.pinned (OpenSpec.ofChange fnExactOneWrong)

/-- 'laws.FnMonotone': WHATEVER THE INPUT: true; the input reads as it did. -/
def fnMonotoneSpec : ChangeSpec := { name := "fnMonotone", fn := fun _ => fun
  | [d1, d2] => { results := [.lit (.bool true)], args := [d1, d2] }
  | _ => none }
def fnMonotoneRow : OpenClaim := { program := "ytbdcpfpoohadaaa", sum := "fc125d7e8991ec600d0f8b19dada492c6203e13e787283867bfe81c42ed9e455", func := "loop.example/pub-timebuckets/laws.FnMonotone", spec := "fnMonotone", inPlace := ["sync/atomic.AddUint64", "sync/atomic.LoadUint64"], apart := false }
def FnMonotoneSaid : Prop := fnMonotoneRow.holds Try.pinned (OpenSpec.ofChange fnMonotoneSpec)

/-- ITS FALSE NEIGHBOUR: 'it returns false'. Refute it at one input. -/
def fnMonotoneWrong : ChangeSpec := { name := "fnMonotone", fn := fun _ => fun
  | [d1, d2] => { results := [.lit (.bool false)], args := [d1, d2] }
  | _ => none }
def FnMonotoneWrongFalsely : Prop := fnMonotoneRow.holds Try.pinned (OpenSpec.ofChange fnMonotoneWrong)

/-- 'laws.FnNear': WHATEVER THE INPUT: true; the input reads as it did. -/
def fnNearSpec : ChangeSpec := { name := "fnNear", fn := fun _ => fun
  | [d1, d2] => { results := [.lit (.bool true)], args := [d1, d2] }
  | _ => none }
def fnNearRow : OpenClaim := { program := "ytbdcpfpoohadaaa", sum := "fc125d7e8991ec600d0f8b19dada492c6203e13e787283867bfe81c42ed9e455", func := "loop.example/pub-timebuckets/laws.FnNear", spec := "fnNear", inPlace := ["sync/atomic.AddUint64", "sync/atomic.LoadUint64"], apart := false }
def FnNearSaid : Prop := fnNearRow.holds Try.pinned (OpenSpec.ofChange fnNearSpec)

/-- ITS FALSE NEIGHBOUR: 'it returns false'. Refute it at one input. -/
def fnNearWrong : ChangeSpec := { name := "fnNear", fn := fun _ => fun
  | [d1, d2] => { results := [.lit (.bool false)], args := [d1, d2] }
  | _ => none }
def FnNearWrongFalsely : Prop := fnNearRow.holds Try.pinned (OpenSpec.ofChange fnNearWrong)

/-- 'laws.FnTotal': WHATEVER THE INPUT: true; the input reads as it did. -/
def fnTotalSpec : ChangeSpec := { name := "fnTotal", fn := fun _ => fun
  | [d] => { results := [.lit (.bool true)], args := [d] }
  | _ => none }
def fnTotalRow : OpenClaim := { program := "ytbdcpfpoohadaaa", sum := "fc125d7e8991ec600d0f8b19dada492c6203e13e787283867bfe81c42ed9e455", func := "loop.example/pub-timebuckets/laws.FnTotal", spec := "fnTotal", inPlace := ["sync/atomic.AddUint64", "sync/atomic.LoadUint64"], apart := false }
def FnTotalSaid : Prop := fnTotalRow.holds Try.pinned (OpenSpec.ofChange fnTotalSpec)

/-- ITS FALSE NEIGHBOUR: 'it returns false'. Refute it at one input. -/
def fnTotalWrong : ChangeSpec := { name := "fnTotal", fn := fun _ => fun
  | [d] => { results := [.lit (.bool false)], args := [d] }
  | _ => none }
def FnTotalWrongFalsely : Prop := fnTotalRow.holds Try.pinned (OpenSpec.ofChange fnTotalWrong)

/-- 'laws.FnExactBounds': WHATEVER THE INPUT: true; the input reads as it did. -/
def fnExactBoundsSpec : ChangeSpec := { name := "fnExactBounds", fn := fun _ => fun
  | [d] => { results := [.lit (.bool true)], args := [d] }
  | _ => none }
def fnExactBoundsRow : OpenClaim := { program := "ytbdcpfpoohadaaa", sum := "fc125d7e8991ec600d0f8b19dada492c6203e13e787283867bfe81c42ed9e455", func := "loop.example/pub-timebuckets/laws.FnExactBounds", spec := "fnExactBounds", inPlace := ["math.Float64frombits", "math.Float64bits"], apart := false }
def FnExactBoundsSaid : Prop := fnExactBoundsRow.holds Try.pinned (OpenSpec.ofChange fnExactBoundsSpec)

/-- ITS FALSE NEIGHBOUR: 'it returns false'. Refute it at one input. -/
def fnExactBoundsWrong : ChangeSpec := { name := "fnExactBounds", fn := fun _ => fun
  | [d] => { results := [.lit (.bool false)], args := [d] }
  | _ => none }
def FnExactBoundsWrongFalsely : Prop := fnExactBoundsRow.holds Try.pinned (OpenSpec.ofChange fnExactBoundsWrong)

/-- 'laws.FnExactRecord': WHATEVER THE INPUT: true; the input reads as it did. -/
def fnExactRecordSpec : ChangeSpec := { name := "fnExactRecord", fn := fun _ => fun
  | [d] => { results := [.lit (.bool true)], args := [d] }
  | _ => none }
def fnExactRecordRow : OpenClaim := { program := "ytbdcpfpoohadaaa", sum := "fc125d7e8991ec600d0f8b19dada492c6203e13e787283867bfe81c42ed9e455", func := "loop.example/pub-timebuckets/laws.FnExactRecord", spec := "fnExactRecord", inPlace := ["sync/atomic.AddUint64", "sync/atomic.LoadUint64"], apart := false }
def FnExactRecordSaid : Prop := fnExactRecordRow.holds Try.pinned (OpenSpec.ofChange fnExactRecordSpec)

/-- ITS FALSE NEIGHBOUR: 'it returns false'. Refute it at one input. -/
def fnExactRecordWrong : ChangeSpec := { name := "fnExactRecord", fn := fun _ => fun
  | [d] => { results := [.lit (.bool false)], args := [d] }
  | _ => none }
def FnExactRecordWrongFalsely : Prop := fnExactRecordRow.holds Try.pinned (OpenSpec.ofChange fnExactRecordWrong)

/-- 'laws.FnSeconds': WHATEVER THE INPUT: true; the input reads as it did. -/
def fnSecondsSpec : ChangeSpec := { name := "fnSeconds", fn := fun _ => fun
  | [d] => { results := [.lit (.bool true)], args := [d] }
  | _ => none }
def fnSecondsRow : OpenClaim := { program := "ytbdcpfpoohadaaa", sum := "fc125d7e8991ec600d0f8b19dada492c6203e13e787283867bfe81c42ed9e455", func := "loop.example/pub-timebuckets/laws.FnSeconds", spec := "fnSeconds", inPlace := ["sync/atomic.AddUint64", "sync/atomic.LoadUint64", "math.Float64frombits"], apart := false }
def FnSecondsSaid : Prop := fnSecondsRow.holds Try.pinned (OpenSpec.ofChange fnSecondsSpec)

/-- ITS FALSE NEIGHBOUR: 'it returns false'. Refute it at one input. -/
def fnSecondsWrong : ChangeSpec := { name := "fnSeconds", fn := fun _ => fun
  | [d] => { results := [.lit (.bool false)], args := [d] }
  | _ => none }
def FnSecondsWrongFalsely : Prop := fnSecondsRow.holds Try.pinned (OpenSpec.ofChange fnSecondsWrong)

/-- 'laws.FnOrder': WHATEVER THE INPUT: true; the input reads as it did. -/
def fnOrderSpec : ChangeSpec := { name := "fnOrder", fn := fun _ => fun
  | [d] => { results := [.lit (.bool true)], args := [d] }
  | _ => none }
def fnOrderRow : OpenClaim := { program := "ytbdcpfpoohadaaa", sum := "fc125d7e8991ec600d0f8b19dada492c6203e13e787283867bfe81c42ed9e455", func := "loop.example/pub-timebuckets/laws.FnOrder", spec := "fnOrder", inPlace := ["sync/atomic.AddUint64", "sync/atomic.LoadUint64"], recurses := true, apart := false }
def FnOrderSaid : Prop := fnOrderRow.holds Try.pinned (OpenSpec.ofChange fnOrderSpec)

/-- ITS FALSE NEIGHBOUR: 'it returns false'. Refute it at one input. -/
def fnOrderWrong : ChangeSpec := { name := "fnOrder", fn := fun _ => fun
  | [d] => { results := [.lit (.bool false)], args := [d] }
  | _ => none }
def FnOrderWrongFalsely : Prop := fnOrderRow.holds Try.pinned (OpenSpec.ofChange fnOrderWrong)

/- THE SECOND FORM. 'bulk': how many values and letters a reading holds, each counted each time it is reached (what is shared counts as often as it is met; a slice's spare places count too). A statement '..UptoSaid' is the law's where the arguments, and the package variables that the reading takes, are together of bulk at most 1048576: NARROWER than '..Said'. Prove '..Said' where nothing that the law and all that it calls make is longer than what came in: it says more and counts as full. Else prove '..UptoSaid'. A law counts once. -/
mutual
def uptoBulk {H : Type} : DataW H → Nat
  | .lit (.string bytes) => bytes.length + 1
  | .lit _ => 1
  | .nil => 1
  | .ptr d => uptoBulk d + 1
  | .slice elems spare => uptoBulkAll elems + uptoBulkAll spare + 1
  | .agg parts => uptoBulkAll parts + 1
  | .iface _ d => uptoBulk d + 1
  | .map entries => uptoBulkEntries entries + 1
  | .held _ => 1
def uptoBulkAll {H : Type} : List (DataW H) → Nat
  | [] => 0
  | d :: r => uptoBulk d + uptoBulkAll r
def uptoBulkEntries {H : Type} : List (Lit × DataW H) → Nat
  | [] => 0
  | x :: r => uptoBulkEntry x + uptoBulkEntries r
def uptoBulkEntry {H : Type} : Lit × DataW H → Nat
  | (.string bytes, d) => bytes.length + uptoBulk d + 1
  | (_, d) => uptoBulk d + 1
 end
def uptoSmall : (H : Type) → List (DataW H) → Bool := fun _ ds => decide (uptoBulkAll ds ≤ 1048576)
def OpenSpec.upto (s : _root_.Go.ChangeSpec) : _root_.Go.OpenSpec := { _root_.Go.OpenSpec.ofChange s with cond := some uptoSmall }

/-- 'laws.FnAscend', WHERE WHAT IT READS IS OF BULK AT MOST 1048576: true; the input reads as it did. -/
def fnAscendUptoRow : OpenClaim := { program := "ytbdcpfpoohadaaa", sum := "fc125d7e8991ec600d0f8b19dada492c6203e13e787283867bfe81c42ed9e455", func := "loop.example/pub-timebuckets/laws.FnAscend", spec := "fnAscend", inPlace := ["math.Float64frombits"], apart := false, narrowed := true }
def FnAscendUptoSaid : Prop := fnAscendUptoRow.holds Try.pinned (OpenSpec.upto fnAscendSpec)

/-- 'laws.FnAppend', WHERE WHAT IT READS IS OF BULK AT MOST 1048576: true; the input reads as it did. -/
def fnAppendUptoRow : OpenClaim := { program := "ytbdcpfpoohadaaa", sum := "fc125d7e8991ec600d0f8b19dada492c6203e13e787283867bfe81c42ed9e455", func := "loop.example/pub-timebuckets/laws.FnAppend", spec := "fnAppend", inPlace := ["sync/atomic.AddUint64", "sync/atomic.LoadUint64"], apart := false, narrowed := true }
def FnAppendUptoSaid : Prop := fnAppendUptoRow.holds Try.pinned (OpenSpec.upto fnAppendSpec)

/-- 'laws.FnExactLow', WHERE WHAT IT READS IS OF BULK AT MOST 1048576: true; the input reads as it did. -/
def fnExactLowUptoRow : OpenClaim := { program := "ytbdcpfpoohadaaa", sum := "fc125d7e8991ec600d0f8b19dada492c6203e13e787283867bfe81c42ed9e455", func := "loop.example/pub-timebuckets/laws.FnExactLow", spec := "fnExactLow", inPlace := ["sync/atomic.AddUint64", "sync/atomic.LoadUint64"], apart := false, narrowed := true }
def FnExactLowUptoSaid : Prop := fnExactLowUptoRow.holds Try.pinned (OpenSpec.upto fnExactLowSpec)

/-- 'laws.FnExactOne', WHERE WHAT IT READS IS OF BULK AT MOST 1048576: true; the input reads as it did. -/
def fnExactOneUptoRow : OpenClaim := { program := "ytbdcpfpoohadaaa", sum := "fc125d7e8991ec600d0f8b19dada492c6203e13e787283867bfe81c42ed9e455", func := "loop.example/pub-timebuckets/laws.FnExactOne", spec := "fnExactOne", inPlace := ["sync/atomic.AddUint64", "sync/atomic.LoadUint64"], apart := false, narrowed := true }
def FnExactOneUptoSaid : Prop := fnExactOneUptoRow.holds Try.pinned (OpenSpec.upto fnExactOneSpec)

/-- 'laws.FnMonotone', WHERE WHAT IT READS IS OF BULK AT MOST 1048576: true; the input reads as it did. -/
def fnMonotoneUptoRow : OpenClaim := { program := "ytbdcpfpoohadaaa", sum := "fc125d7e8991ec600d0f8b19dada492c6203e13e787283867bfe81c42ed9e455", func := "loop.example/pub-timebuckets/laws.FnMonotone", spec := "fnMonotone", inPlace := ["sync/atomic.AddUint64", "sync/atomic.LoadUint64"], apart := false, narrowed := true }
def FnMonotoneUptoSaid : Prop := fnMonotoneUptoRow.holds Try.pinned (OpenSpec.upto fnMonotoneSpec)

/-- 'laws.FnNear', WHERE WHAT IT READS IS OF BULK AT MOST 1048576: true; the input reads as it did. -/
def fnNearUptoRow : OpenClaim := { program := "ytbdcpfpoohadaaa", sum := "fc125d7e8991ec600d0f8b19dada492c6203e13e787283867bfe81c42ed9e455", func := "loop.example/pub-timebuckets/laws.FnNear", spec := "fnNear", inPlace := ["sync/atomic.AddUint64", "sync/atomic.LoadUint64"], apart := false, narrowed := true }
def FnNearUptoSaid : Prop := fnNearUptoRow.holds Try.pinned (OpenSpec.upto fnNearSpec)

/-- 'laws.FnTotal', WHERE WHAT IT READS IS OF BULK AT MOST 1048576: true; the input reads as it did. -/
def fnTotalUptoRow : OpenClaim := { program := "ytbdcpfpoohadaaa", sum := "fc125d7e8991ec600d0f8b19dada492c6203e13e787283867bfe81c42ed9e455", func := "loop.example/pub-timebuckets/laws.FnTotal", spec := "fnTotal", inPlace := ["sync/atomic.AddUint64", "sync/atomic.LoadUint64"], apart := false, narrowed := true }
def FnTotalUptoSaid : Prop := fnTotalUptoRow.holds Try.pinned (OpenSpec.upto fnTotalSpec)

/-- 'laws.FnExactBounds', WHERE WHAT IT READS IS OF BULK AT MOST 1048576: true; the input reads as it did. -/
def fnExactBoundsUptoRow : OpenClaim := { program := "ytbdcpfpoohadaaa", sum := "fc125d7e8991ec600d0f8b19dada492c6203e13e787283867bfe81c42ed9e455", func := "loop.example/pub-timebuckets/laws.FnExactBounds", spec := "fnExactBounds", inPlace := ["math.Float64frombits", "math.Float64bits"], apart := false, narrowed := true }
def FnExactBoundsUptoSaid : Prop := fnExactBoundsUptoRow.holds Try.pinned (OpenSpec.upto fnExactBoundsSpec)

/-- 'laws.FnExactRecord', WHERE WHAT IT READS IS OF BULK AT MOST 1048576: true; the input reads as it did. -/
def fnExactRecordUptoRow : OpenClaim := { program := "ytbdcpfpoohadaaa", sum := "fc125d7e8991ec600d0f8b19dada492c6203e13e787283867bfe81c42ed9e455", func := "loop.example/pub-timebuckets/laws.FnExactRecord", spec := "fnExactRecord", inPlace := ["sync/atomic.AddUint64", "sync/atomic.LoadUint64"], apart := false, narrowed := true }
def FnExactRecordUptoSaid : Prop := fnExactRecordUptoRow.holds Try.pinned (OpenSpec.upto fnExactRecordSpec)

/-- 'laws.FnSeconds', WHERE WHAT IT READS IS OF BULK AT MOST 1048576: true; the input reads as it did. -/
def fnSecondsUptoRow : OpenClaim := { program := "ytbdcpfpoohadaaa", sum := "fc125d7e8991ec600d0f8b19dada492c6203e13e787283867bfe81c42ed9e455", func := "loop.example/pub-timebuckets/laws.FnSeconds", spec := "fnSeconds", inPlace := ["sync/atomic.AddUint64", "sync/atomic.LoadUint64", "math.Float64frombits"], apart := false, narrowed := true }
def FnSecondsUptoSaid : Prop := fnSecondsUptoRow.holds Try.pinned (OpenSpec.upto fnSecondsSpec)

/-- 'laws.FnOrder', WHERE WHAT IT READS IS OF BULK AT MOST 1048576: true; the input reads as it did. -/
def fnOrderUptoRow : OpenClaim := { program := "ytbdcpfpoohadaaa", sum := "fc125d7e8991ec600d0f8b19dada492c6203e13e787283867bfe81c42ed9e455", func := "loop.example/pub-timebuckets/laws.FnOrder", spec := "fnOrder", inPlace := ["sync/atomic.AddUint64", "sync/atomic.LoadUint64"], recurses := true, apart := false, narrowed := true }
def FnOrderUptoSaid : Prop := fnOrderUptoRow.holds Try.pinned (OpenSpec.upto fnOrderSpec)

end Rows
end Go.Proofs.Ytbdcpfpoohadaaa
