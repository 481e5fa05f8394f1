/-
  No cell of these rows narrows 'for every input' (looked for: loops, veiled, ifaces, maps, wideKeys, modest, calm, conditions, laid).
  DERIVED. THE GIVEN ROWS OF THIS SEAT. 6 by the template 'for every input the law returns true; each argument reads behind the call as it read before'; 0 by the template 'total and deterministic' (their statements: YtlmllpgebakhhaaTotals.lean).
  GIVEN WITH THE SEED: the statements are not yours to turn. If you find one false, say at which input.
  Laid BY PROGRAM, IN A SANDBOX (cutbox-rows.mjs): the forced cells as the released guide's own fill.sh prints them over the translation 578770f08ad22c2f… (all of the seat's roots in one cut). By AI agents, Wed Nov 11 2026. No macro, syntax, notation, axiom, sorry.
-/
import Derived.Test.YtlmllpgebakhhaaChecked
import GoSem.Claim
import GoSem.ClaimJoined
import GoSem.ClaimMapViews
import Derived.JoinedTies
import Derived.KernelRfl
namespace Go.Proofs.Ytlmllpgebakhhaa
/- THE CELL 'sum', in the pinned program and in every row, IS THE sha256 OF THE DUMP (.gsa) THAT YtlmllpgebakhhaaProg.lean LOADS. Nothing in Lean hashes anything: it is a label: what it is worth is what the hold of that sum in a sandbox is worth. -/
noncomputable def Try.pinned : Pinned := { name := "ytlmllpgebakhhaa", sum := "578770f08ad22c2ffd9d8aef0ebfe4d8162c6e3f15824b6934725da67ef808a0", checked := Try.checked }
namespace Rows
def none {H : Type} : Left H := { results := [], args := [] }

/-- 'laws.FnFlags': WHATEVER THE INPUT: true; the input reads as it did. -/
def fnFlagsSpec : ChangeSpec := { name := "fnFlags", fn := fun _ => fun
  | [d] => { results := [.lit (.bool true)], args := [d] }
  | _ => none }
def fnFlagsRow : OpenClaim := { program := "ytlmllpgebakhhaa", sum := "578770f08ad22c2ffd9d8aef0ebfe4d8162c6e3f15824b6934725da67ef808a0", func := "loop.example/pub-g01447/laws.FnFlags", spec := "fnFlags", apart := false }
def FnFlagsSaid : Prop := fnFlagsRow.holds Try.pinned (OpenSpec.ofChange fnFlagsSpec)

/-- ITS FALSE NEIGHBOUR: 'it returns false'. Refute it at one input. -/
def fnFlagsWrong : ChangeSpec := { name := "fnFlags", fn := fun _ => fun
  | [d] => { results := [.lit (.bool false)], args := [d] }
  | _ => none }
def FnFlagsWrongFalsely : Prop := fnFlagsRow.holds Try.pinned (OpenSpec.ofChange fnFlagsWrong)

/-- 'laws.FnNamed': WHATEVER THE INPUT: true; the input reads as it did. -/
def fnNamedSpec : ChangeSpec := { name := "fnNamed", fn := fun _ => fun
  | [d1, d2, d3, d4] => { results := [.lit (.bool true)], args := [d1, d2, d3, d4] }
  | _ => none }
def fnNamedRow : OpenClaim := { program := "ytlmllpgebakhhaa", sum := "578770f08ad22c2ffd9d8aef0ebfe4d8162c6e3f15824b6934725da67ef808a0", func := "loop.example/pub-g01447/laws.FnNamed", spec := "fnNamed", apart := false }
def FnNamedSaid : Prop := fnNamedRow.holds Try.pinned (OpenSpec.ofChange fnNamedSpec)

/-- ITS FALSE NEIGHBOUR: 'it returns false'. Refute it at one input. -/
def fnNamedWrong : ChangeSpec := { name := "fnNamed", fn := fun _ => fun
  | [d1, d2, d3, d4] => { results := [.lit (.bool false)], args := [d1, d2, d3, d4] }
  | _ => none }
def FnNamedWrongFalsely : Prop := fnNamedRow.holds Try.pinned (OpenSpec.ofChange fnNamedWrong)

/-- 'laws.FnBasesTold': WHATEVER THE INPUT: true; the input reads as it did. -/
def fnBasesToldSpec : ChangeSpec := { name := "fnBasesTold", fn := fun _ => fun
  | [d] => { results := [.lit (.bool true)], args := [d] }
  | _ => none }
def fnBasesToldRow : OpenClaim := { program := "ytlmllpgebakhhaa", sum := "578770f08ad22c2ffd9d8aef0ebfe4d8162c6e3f15824b6934725da67ef808a0", func := "loop.example/pub-g01447/laws.FnBasesTold", spec := "fnBasesTold", apart := false }
def FnBasesToldSaid : Prop := fnBasesToldRow.holds Try.pinned (OpenSpec.ofChange fnBasesToldSpec)

/-- ITS FALSE NEIGHBOUR: 'it returns false'. Refute it at one input. -/
def fnBasesToldWrong : ChangeSpec := { name := "fnBasesTold", fn := fun _ => fun
  | [d] => { results := [.lit (.bool false)], args := [d] }
  | _ => none }
def FnBasesToldWrongFalsely : Prop := fnBasesToldRow.holds Try.pinned (OpenSpec.ofChange fnBasesToldWrong)

/-- 'laws.FnPosCompare': WHATEVER THE INPUT: true; the input reads as it did. -/
def fnPosCompareSpec : ChangeSpec := { name := "fnPosCompare", fn := fun _ => fun
  | [d1, d2, d3] => { results := [.lit (.bool true)], args := [d1, d2, d3] }
  | _ => none }
def fnPosCompareRow : OpenClaim := { program := "ytlmllpgebakhhaa", sum := "578770f08ad22c2ffd9d8aef0ebfe4d8162c6e3f15824b6934725da67ef808a0", func := "loop.example/pub-g01447/laws.FnPosCompare", spec := "fnPosCompare", apart := false }
def FnPosCompareSaid : Prop := fnPosCompareRow.holds Try.pinned (OpenSpec.ofChange fnPosCompareSpec)

/-- ITS FALSE NEIGHBOUR: 'it returns false'. Refute it at one input. -/
def fnPosCompareWrong : ChangeSpec := { name := "fnPosCompare", fn := fun _ => fun
  | [d1, d2, d3] => { results := [.lit (.bool false)], args := [d1, d2, d3] }
  | _ => none }
def FnPosCompareWrongFalsely : Prop := fnPosCompareRow.holds Try.pinned (OpenSpec.ofChange fnPosCompareWrong)

/-- 'laws.FnPosOrder': WHATEVER THE INPUT: true; the input reads as it did. -/
def fnPosOrderSpec : ChangeSpec := { name := "fnPosOrder", fn := fun _ => fun
  | [d1, d2, d3, d4] => { results := [.lit (.bool true)], args := [d1, d2, d3, d4] }
  | _ => none }
def fnPosOrderRow : OpenClaim := { program := "ytlmllpgebakhhaa", sum := "578770f08ad22c2ffd9d8aef0ebfe4d8162c6e3f15824b6934725da67ef808a0", func := "loop.example/pub-g01447/laws.FnPosOrder", spec := "fnPosOrder", apart := false }
def FnPosOrderSaid : Prop := fnPosOrderRow.holds Try.pinned (OpenSpec.ofChange fnPosOrderSpec)

/-- ITS FALSE NEIGHBOUR: 'it returns false'. Refute it at one input. -/
def fnPosOrderWrong : ChangeSpec := { name := "fnPosOrder", fn := fun _ => fun
  | [d1, d2, d3, d4] => { results := [.lit (.bool false)], args := [d1, d2, d3, d4] }
  | _ => none }
def FnPosOrderWrongFalsely : Prop := fnPosOrderRow.holds Try.pinned (OpenSpec.ofChange fnPosOrderWrong)

/-- 'laws.FnPosTold': WHATEVER THE INPUT: true; the input reads as it did. -/
def fnPosToldSpec : ChangeSpec := { name := "fnPosTold", fn := fun _ => fun
  | [d1, d2] => { results := [.lit (.bool true)], args := [d1, d2] }
  | _ => none }
def fnPosToldRow : OpenClaim := { program := "ytlmllpgebakhhaa", sum := "578770f08ad22c2ffd9d8aef0ebfe4d8162c6e3f15824b6934725da67ef808a0", func := "loop.example/pub-g01447/laws.FnPosTold", spec := "fnPosTold", apart := false }
def FnPosToldSaid : Prop := fnPosToldRow.holds Try.pinned (OpenSpec.ofChange fnPosToldSpec)

/-- ITS FALSE NEIGHBOUR: 'it returns false'. Refute it at one input. -/
def fnPosToldWrong : ChangeSpec := { name := "fnPosTold", fn := fun _ => fun
  | [d1, d2] => { results := [.lit (.bool false)], args := [d1, d2] }
  | _ => none }
def FnPosToldWrongFalsely : Prop := fnPosToldRow.holds Try.pinned (OpenSpec.ofChange fnPosToldWrong)

/- THE SECOND FORM. 'bulk': how many values and letters a reading holds, each counted each time it is reached (what is shared counts as often as it is met; a slice's spare places count too). A statement '..UptoSaid' is the law's where the arguments, and the package variables that the reading takes, are together of bulk at most 1048576: NARROWER than '..Said'. Prove '..Said' where nothing that the law and all that it calls make is longer than what came in: it says more and counts as full. Else prove '..UptoSaid'. A law counts once. -/
mutual
def uptoBulk {H : Type} : DataW H → Nat
  | .lit (.string bytes) => bytes.length + 1
  | .lit _ => 1
  | .nil => 1
  | .ptr d => uptoBulk d + 1
  | .slice elems spare => uptoBulkAll elems + uptoBulkAll spare + 1
  | .agg parts => uptoBulkAll parts + 1
  | .iface _ d => uptoBulk d + 1
  | .map entries => uptoBulkEntries entries + 1
  | .held _ => 1
def uptoBulkAll {H : Type} : List (DataW H) → Nat
  | [] => 0
  | d :: r => uptoBulk d + uptoBulkAll r
def uptoBulkEntries {H : Type} : List (Lit × DataW H) → Nat
  | [] => 0
  | x :: r => uptoBulkEntry x + uptoBulkEntries r
def uptoBulkEntry {H : Type} : Lit × DataW H → Nat
  | (.string bytes, d) => bytes.length + uptoBulk d + 1
  | (_, d) => uptoBulk d + 1
 end
def uptoSmall : (H : Type) → List (DataW H) → Bool := fun _ ds => decide (uptoBulkAll ds ≤ 1048576)
def OpenSpec.upto (s : _root_.Go.ChangeSpec) : _root_.Go.OpenSpec := { _root_.Go.OpenSpec.ofChange s with cond := some uptoSmall }

/-- 'laws.FnFlags', WHERE WHAT IT READS IS OF BULK AT MOST 1048576: true; the input reads as it did. -/
def fnFlagsUptoRow : OpenClaim := { program := "ytlmllpgebakhhaa", sum := "578770f08ad22c2ffd9d8aef0ebfe4d8162c6e3f15824b6934725da67ef808a0", func := "loop.example/pub-g01447/laws.FnFlags", spec := "fnFlags", apart := false, narrowed := true }
def FnFlagsUptoSaid : Prop := fnFlagsUptoRow.holds Try.pinned (OpenSpec.upto fnFlagsSpec)

/-- 'laws.FnNamed', WHERE WHAT IT READS IS OF BULK AT MOST 1048576: true; the input reads as it did. -/
def fnNamedUptoRow : OpenClaim := { program := "ytlmllpgebakhhaa", sum := "578770f08ad22c2ffd9d8aef0ebfe4d8162c6e3f15824b6934725da67ef808a0", func := "loop.example/pub-g01447/laws.FnNamed", spec := "fnNamed", apart := false, narrowed := true }
def FnNamedUptoSaid : Prop := fnNamedUptoRow.holds Try.pinned (OpenSpec.upto fnNamedSpec)

/-- 'laws.FnBasesTold', WHERE WHAT IT READS IS OF BULK AT MOST 1048576: true; the input reads as it did. -/
def fnBasesToldUptoRow : OpenClaim := { program := "ytlmllpgebakhhaa", sum := "578770f08ad22c2ffd9d8aef0ebfe4d8162c6e3f15824b6934725da67ef808a0", func := "loop.example/pub-g01447/laws.FnBasesTold", spec := "fnBasesTold", apart := false, narrowed := true }
def FnBasesToldUptoSaid : Prop := fnBasesToldUptoRow.holds Try.pinned (OpenSpec.upto fnBasesToldSpec)

/-- 'laws.FnPosCompare', WHERE WHAT IT READS IS OF BULK AT MOST 1048576: true; the input reads as it did. -/
def fnPosCompareUptoRow : OpenClaim := { program := "ytlmllpgebakhhaa", sum := "578770f08ad22c2ffd9d8aef0ebfe4d8162c6e3f15824b6934725da67ef808a0", func := "loop.example/pub-g01447/laws.FnPosCompare", spec := "fnPosCompare", apart := false, narrowed := true }
def FnPosCompareUptoSaid : Prop := fnPosCompareUptoRow.holds Try.pinned (OpenSpec.upto fnPosCompareSpec)

/-- 'laws.FnPosOrder', WHERE WHAT IT READS IS OF BULK AT MOST 1048576: true; the input reads as it did. -/
def fnPosOrderUptoRow : OpenClaim := { program := "ytlmllpgebakhhaa", sum := "578770f08ad22c2ffd9d8aef0ebfe4d8162c6e3f15824b6934725da67ef808a0", func := "loop.example/pub-g01447/laws.FnPosOrder", spec := "fnPosOrder", apart := false, narrowed := true }
def FnPosOrderUptoSaid : Prop := fnPosOrderUptoRow.holds Try.pinned (OpenSpec.upto fnPosOrderSpec)

/-- 'laws.FnPosTold', WHERE WHAT IT READS IS OF BULK AT MOST 1048576: true; the input reads as it did. -/
def fnPosToldUptoRow : OpenClaim := { program := "ytlmllpgebakhhaa", sum := "578770f08ad22c2ffd9d8aef0ebfe4d8162c6e3f15824b6934725da67ef808a0", func := "loop.example/pub-g01447/laws.FnPosTold", spec := "fnPosTold", apart := false, narrowed := true }
def FnPosToldUptoSaid : Prop := fnPosToldUptoRow.holds Try.pinned (OpenSpec.upto fnPosToldSpec)

end Rows
end Go.Proofs.Ytlmllpgebakhhaa
