/-
  No cell of these rows narrows 'for every input' (looked for: loops, veiled, ifaces, maps, wideKeys, modest, calm, conditions, laid).
  DERIVED. THE GIVEN ROWS OF THIS SEAT. 9 by the template 'for every input the law returns true; each argument reads behind the call as it read before'; 0 by the template 'total and deterministic' (their statements: YtjabehkfajikjaaTotals.lean).
  GIVEN WITH THE SEED: the statements are not yours to turn. If you find one false, say at which input.
  Laid BY PROGRAM, IN A SANDBOX (cutbox-rows.mjs): the forced cells as the released guide's own fill.sh prints them over the translation dc07fac3ac1a4a65… (all of the seat's roots in one cut). By AI agents, Wed Nov 11 2026. No macro, syntax, notation, axiom, sorry.
-/
import Derived.Test.YtjabehkfajikjaaChecked
import GoSem.Claim
import GoSem.ClaimJoined
import GoSem.ClaimMapViews
import Derived.JoinedTies
import Derived.KernelRfl
namespace Go.Proofs.Ytjabehkfajikjaa
/- THE CELL 'sum', in the pinned program and in every row, IS THE sha256 OF THE DUMP (.gsa) THAT YtjabehkfajikjaaProg.lean LOADS. Nothing in Lean hashes anything: it is a label: what it is worth is what the hold of that sum in a sandbox is worth. -/
noncomputable def Try.pinned : Pinned := { name := "ytjabehkfajikjaa", sum := "dc07fac3ac1a4a658853d45be18213c779f1a01763de2b2683ffdf3a2d5c7187", checked := Try.checked }
namespace Rows
def none {H : Type} : Left H := { results := [], args := [] }

/-- 'laws.FnChained': WHATEVER THE INPUT: true; the input reads as it did. -/
def fnChainedSpec : ChangeSpec := { name := "fnChained", fn := fun _ => fun
  | [d] => { results := [.lit (.bool true)], args := [d] }
  | _ => none }
def fnChainedRow : OpenClaim := { program := "ytjabehkfajikjaa", sum := "dc07fac3ac1a4a658853d45be18213c779f1a01763de2b2683ffdf3a2d5c7187", func := "lockstair/laws.FnChained", spec := "fnChained", apart := false }
def FnChainedSaid : Prop := fnChainedRow.holds Try.pinned (OpenSpec.ofChange fnChainedSpec)

/-- ITS FALSE NEIGHBOUR: 'it returns false'. Refute it at one input. -/
def fnChainedWrong : ChangeSpec := { name := "fnChained", fn := fun _ => fun
  | [d] => { results := [.lit (.bool false)], args := [d] }
  | _ => none }
def FnChainedWrongFalsely : Prop := fnChainedRow.holds Try.pinned (OpenSpec.ofChange fnChainedWrong)

/-- 'laws.FnKnown': WHATEVER THE INPUT: true; the input reads as it did. -/
def fnKnownSpec : ChangeSpec := { name := "fnKnown", fn := fun _ => fun
  | [d1, d2] => { results := [.lit (.bool true)], args := [d1, d2] }
  | _ => none }
def fnKnownRow : OpenClaim := { program := "ytjabehkfajikjaa", sum := "dc07fac3ac1a4a658853d45be18213c779f1a01763de2b2683ffdf3a2d5c7187", func := "lockstair/laws.FnKnown", spec := "fnKnown", apart := false }
def FnKnownSaid : Prop := fnKnownRow.holds Try.pinned (OpenSpec.ofChange fnKnownSpec)

/-- ITS FALSE NEIGHBOUR: 'it returns false'. Refute it at one input. -/
def fnKnownWrong : ChangeSpec := { name := "fnKnown", fn := fun _ => fun
  | [d1, d2] => { results := [.lit (.bool false)], args := [d1, d2] }
  | _ => none }
def FnKnownWrongFalsely : Prop := fnKnownRow.holds Try.pinned (OpenSpec.ofChange fnKnownWrong)

/-- 'laws.FnNoCycle': WHATEVER THE INPUT: true; the input reads as it did. -/
def fnNoCycleSpec : ChangeSpec := { name := "fnNoCycle", fn := fun _ => fun
  | [d1, d2] => { results := [.lit (.bool true)], args := [d1, d2] }
  | _ => none }
def fnNoCycleRow : OpenClaim := { program := "ytjabehkfajikjaa", sum := "dc07fac3ac1a4a658853d45be18213c779f1a01763de2b2683ffdf3a2d5c7187", func := "lockstair/laws.FnNoCycle", spec := "fnNoCycle", apart := false }
def FnNoCycleSaid : Prop := fnNoCycleRow.holds Try.pinned (OpenSpec.ofChange fnNoCycleSpec)

/-- ITS FALSE NEIGHBOUR: 'it returns false'. Refute it at one input. -/
def fnNoCycleWrong : ChangeSpec := { name := "fnNoCycle", fn := fun _ => fun
  | [d1, d2] => { results := [.lit (.bool false)], args := [d1, d2] }
  | _ => none }
def FnNoCycleWrongFalsely : Prop := fnNoCycleRow.holds Try.pinned (OpenSpec.ofChange fnNoCycleWrong)

/-- 'laws.FnRankOrder': WHATEVER THE INPUT: true; the input reads as it did. -/
def fnRankOrderSpec : ChangeSpec := { name := "fnRankOrder", fn := fun _ => fun
  | [d1, d2] => { results := [.lit (.bool true)], args := [d1, d2] }
  | _ => none }
def fnRankOrderRow : OpenClaim := { program := "ytjabehkfajikjaa", sum := "dc07fac3ac1a4a658853d45be18213c779f1a01763de2b2683ffdf3a2d5c7187", func := "lockstair/laws.FnRankOrder", spec := "fnRankOrder", apart := false }
def FnRankOrderSaid : Prop := fnRankOrderRow.holds Try.pinned (OpenSpec.ofChange fnRankOrderSpec)

/-- ITS FALSE NEIGHBOUR: 'it returns false'. Refute it at one input. -/
def fnRankOrderWrong : ChangeSpec := { name := "fnRankOrder", fn := fun _ => fun
  | [d1, d2] => { results := [.lit (.bool false)], args := [d1, d2] }
  | _ => none }
def FnRankOrderWrongFalsely : Prop := fnRankOrderRow.holds Try.pinned (OpenSpec.ofChange fnRankOrderWrong)

/-- 'laws.FnRising': WHATEVER THE INPUT: true; the input reads as it did. -/
def fnRisingSpec : ChangeSpec := { name := "fnRising", fn := fun _ => fun
  | [d] => { results := [.lit (.bool true)], args := [d] }
  | _ => none }
def fnRisingRow : OpenClaim := { program := "ytjabehkfajikjaa", sum := "dc07fac3ac1a4a658853d45be18213c779f1a01763de2b2683ffdf3a2d5c7187", func := "lockstair/laws.FnRising", spec := "fnRising", apart := false }
def FnRisingSaid : Prop := fnRisingRow.holds Try.pinned (OpenSpec.ofChange fnRisingSpec)

/-- ITS FALSE NEIGHBOUR: 'it returns false'. Refute it at one input. -/
def fnRisingWrong : ChangeSpec := { name := "fnRising", fn := fun _ => fun
  | [d] => { results := [.lit (.bool false)], args := [d] }
  | _ => none }
def FnRisingWrongFalsely : Prop := fnRisingRow.holds Try.pinned (OpenSpec.ofChange fnRisingWrong)

/-- 'laws.FnSubset': WHATEVER THE INPUT: true; the input reads as it did. -/
def fnSubsetSpec : ChangeSpec := { name := "fnSubset", fn := fun _ => fun
  | [d1, d2] => { results := [.lit (.bool true)], args := [d1, d2] }
  | _ => none }
def fnSubsetRow : OpenClaim := { program := "ytjabehkfajikjaa", sum := "dc07fac3ac1a4a658853d45be18213c779f1a01763de2b2683ffdf3a2d5c7187", func := "lockstair/laws.FnSubset", spec := "fnSubset", apart := false }
def FnSubsetSaid : Prop := fnSubsetRow.holds Try.pinned (OpenSpec.ofChange fnSubsetSpec)

/-- ITS FALSE NEIGHBOUR: 'it returns false'. Refute it at one input. -/
def fnSubsetWrong : ChangeSpec := { name := "fnSubset", fn := fun _ => fun
  | [d1, d2] => { results := [.lit (.bool false)], args := [d1, d2] }
  | _ => none }
def FnSubsetWrongFalsely : Prop := fnSubsetRow.holds Try.pinned (OpenSpec.ofChange fnSubsetWrong)

/-- 'laws.FnTransitive': WHATEVER THE INPUT: true; the input reads as it did. -/
def fnTransitiveSpec : ChangeSpec := { name := "fnTransitive", fn := fun _ => fun
  | [d1, d2, d3] => { results := [.lit (.bool true)], args := [d1, d2, d3] }
  | _ => none }
def fnTransitiveRow : OpenClaim := { program := "ytjabehkfajikjaa", sum := "dc07fac3ac1a4a658853d45be18213c779f1a01763de2b2683ffdf3a2d5c7187", func := "lockstair/laws.FnTransitive", spec := "fnTransitive", apart := false }
def FnTransitiveSaid : Prop := fnTransitiveRow.holds Try.pinned (OpenSpec.ofChange fnTransitiveSpec)

/-- ITS FALSE NEIGHBOUR: 'it returns false'. Refute it at one input. -/
def fnTransitiveWrong : ChangeSpec := { name := "fnTransitive", fn := fun _ => fun
  | [d1, d2, d3] => { results := [.lit (.bool false)], args := [d1, d2, d3] }
  | _ => none }
def FnTransitiveWrongFalsely : Prop := fnTransitiveRow.holds Try.pinned (OpenSpec.ofChange fnTransitiveWrong)

/-- 'laws.FnLeaf': WHATEVER THE INPUT: true; the input reads as it did. -/
def fnLeafSpec : ChangeSpec := { name := "fnLeaf", fn := fun _ => fun
  | [d] => { results := [.lit (.bool true)], args := [d] }
  | _ => none }
def fnLeafRow : OpenClaim := { program := "ytjabehkfajikjaa", sum := "dc07fac3ac1a4a658853d45be18213c779f1a01763de2b2683ffdf3a2d5c7187", func := "lockstair/laws.FnLeaf", spec := "fnLeaf", apart := false }
def FnLeafSaid : Prop := fnLeafRow.holds Try.pinned (OpenSpec.ofChange fnLeafSpec)

/-- ITS FALSE NEIGHBOUR: 'it returns false'. Refute it at one input. -/
def fnLeafWrong : ChangeSpec := { name := "fnLeaf", fn := fun _ => fun
  | [d] => { results := [.lit (.bool false)], args := [d] }
  | _ => none }
def FnLeafWrongFalsely : Prop := fnLeafRow.holds Try.pinned (OpenSpec.ofChange fnLeafWrong)

/-- 'laws.FnNames': WHATEVER THE INPUT: true; the input reads as it did. -/
def fnNamesSpec : ChangeSpec := { name := "fnNames", fn := fun _ => fun
  | [d] => { results := [.lit (.bool true)], args := [d] }
  | _ => none }
def fnNamesRow : OpenClaim := { program := "ytjabehkfajikjaa", sum := "dc07fac3ac1a4a658853d45be18213c779f1a01763de2b2683ffdf3a2d5c7187", func := "lockstair/laws.FnNames", spec := "fnNames", apart := false }
def FnNamesSaid : Prop := fnNamesRow.holds Try.pinned (OpenSpec.ofChange fnNamesSpec)

/-- ITS FALSE NEIGHBOUR: 'it returns false'. Refute it at one input. -/
def fnNamesWrong : ChangeSpec := { name := "fnNames", fn := fun _ => fun
  | [d] => { results := [.lit (.bool false)], args := [d] }
  | _ => none }
def FnNamesWrongFalsely : Prop := fnNamesRow.holds Try.pinned (OpenSpec.ofChange fnNamesWrong)

/- THE SECOND FORM. 'bulk': how many values and letters a reading holds, each counted each time it is reached (what is shared counts as often as it is met; a slice's spare places count too). A statement '..UptoSaid' is the law's where the arguments, and the package variables that the reading takes, are together of bulk at most 1048576: NARROWER than '..Said'. Prove '..Said' where nothing that the law and all that it calls make is longer than what came in: it says more and counts as full. Else prove '..UptoSaid'. A law counts once. -/
mutual
def uptoBulk {H : Type} : DataW H → Nat
  | .lit (.string bytes) => bytes.length + 1
  | .lit _ => 1
  | .nil => 1
  | .ptr d => uptoBulk d + 1
  | .slice elems spare => uptoBulkAll elems + uptoBulkAll spare + 1
  | .agg parts => uptoBulkAll parts + 1
  | .iface _ d => uptoBulk d + 1
  | .map entries => uptoBulkEntries entries + 1
  | .held _ => 1
def uptoBulkAll {H : Type} : List (DataW H) → Nat
  | [] => 0
  | d :: r => uptoBulk d + uptoBulkAll r
def uptoBulkEntries {H : Type} : List (Lit × DataW H) → Nat
  | [] => 0
  | x :: r => uptoBulkEntry x + uptoBulkEntries r
def uptoBulkEntry {H : Type} : Lit × DataW H → Nat
  | (.string bytes, d) => bytes.length + uptoBulk d + 1
  | (_, d) => uptoBulk d + 1
 end
def uptoSmall : (H : Type) → List (DataW H) → Bool := fun _ ds => decide (uptoBulkAll ds ≤ 1048576)
def OpenSpec.upto (s : _root_.Go.ChangeSpec) : _root_.Go.OpenSpec := { _root_.Go.OpenSpec.ofChange s with cond := some uptoSmall }

/-- 'laws.FnChained', WHERE WHAT IT READS IS OF BULK AT MOST 1048576: true; the input reads as it did. -/
def fnChainedUptoRow : OpenClaim := { program := "ytjabehkfajikjaa", sum := "dc07fac3ac1a4a658853d45be18213c779f1a01763de2b2683ffdf3a2d5c7187", func := "lockstair/laws.FnChained", spec := "fnChained", apart := false, narrowed := true }
def FnChainedUptoSaid : Prop := fnChainedUptoRow.holds Try.pinned (OpenSpec.upto fnChainedSpec)

/-- 'laws.FnKnown', WHERE WHAT IT READS IS OF BULK AT MOST 1048576: true; the input reads as it did. -/
def fnKnownUptoRow : OpenClaim := { program := "ytjabehkfajikjaa", sum := "dc07fac3ac1a4a658853d45be18213c779f1a01763de2b2683ffdf3a2d5c7187", func := "lockstair/laws.FnKnown", spec := "fnKnown", apart := false, narrowed := true }
def FnKnownUptoSaid : Prop := fnKnownUptoRow.holds Try.pinned (OpenSpec.upto fnKnownSpec)

/-- 'laws.FnNoCycle', WHERE WHAT IT READS IS OF BULK AT MOST 1048576: true; the input reads as it did. -/
def fnNoCycleUptoRow : OpenClaim := { program := "ytjabehkfajikjaa", sum := "dc07fac3ac1a4a658853d45be18213c779f1a01763de2b2683ffdf3a2d5c7187", func := "lockstair/laws.FnNoCycle", spec := "fnNoCycle", apart := false, narrowed := true }
def FnNoCycleUptoSaid : Prop := fnNoCycleUptoRow.holds Try.pinned (OpenSpec.upto fnNoCycleSpec)

/-- 'laws.FnRankOrder', WHERE WHAT IT READS IS OF BULK AT MOST 1048576: true; the input reads as it did. -/
def fnRankOrderUptoRow : OpenClaim := { program := "ytjabehkfajikjaa", sum := "dc07fac3ac1a4a658853d45be18213c779f1a01763de2b2683ffdf3a2d5c7187", func := "lockstair/laws.FnRankOrder", spec := "fnRankOrder", apart := false, narrowed := true }
def FnRankOrderUptoSaid : Prop := fnRankOrderUptoRow.holds Try.pinned (OpenSpec.upto fnRankOrderSpec)

/-- 'laws.FnRising', WHERE WHAT IT READS IS OF BULK AT MOST 1048576: true; the input reads as it did. -/
def fnRisingUptoRow : OpenClaim := { program := "ytjabehkfajikjaa", sum := "dc07fac3ac1a4a658853d45be18213c779f1a01763de2b2683ffdf3a2d5c7187", func := "lockstair/laws.FnRising", spec := "fnRising", apart := false, narrowed := true }
def FnRisingUptoSaid : Prop := fnRisingUptoRow.holds Try.pinned (OpenSpec.upto fnRisingSpec)

/-- 'laws.FnSubset', WHERE WHAT IT READS IS OF BULK AT MOST 1048576: true; the input reads as it did. -/
def fnSubsetUptoRow : OpenClaim := { program := "ytjabehkfajikjaa", sum := "dc07fac3ac1a4a658853d45be18213c779f1a01763de2b2683ffdf3a2d5c7187", func := "lockstair/laws.FnSubset", spec := "fnSubset", apart := false, narrowed := true }
def FnSubsetUptoSaid : Prop := fnSubsetUptoRow.holds Try.pinned (OpenSpec.upto fnSubsetSpec)

/-- 'laws.FnTransitive', WHERE WHAT IT READS IS OF BULK AT MOST 1048576: true; the input reads as it did. -/
def fnTransitiveUptoRow : OpenClaim := { program := "ytjabehkfajikjaa", sum := "dc07fac3ac1a4a658853d45be18213c779f1a01763de2b2683ffdf3a2d5c7187", func := "lockstair/laws.FnTransitive", spec := "fnTransitive", apart := false, narrowed := true }
def FnTransitiveUptoSaid : Prop := fnTransitiveUptoRow.holds Try.pinned (OpenSpec.upto fnTransitiveSpec)

/-- 'laws.FnLeaf', WHERE WHAT IT READS IS OF BULK AT MOST 1048576: true; the input reads as it did. -/
def fnLeafUptoRow : OpenClaim := { program := "ytjabehkfajikjaa", sum := "dc07fac3ac1a4a658853d45be18213c779f1a01763de2b2683ffdf3a2d5c7187", func := "lockstair/laws.FnLeaf", spec := "fnLeaf", apart := false, narrowed := true }
def FnLeafUptoSaid : Prop := fnLeafUptoRow.holds Try.pinned (OpenSpec.upto fnLeafSpec)

/-- 'laws.FnNames', WHERE WHAT IT READS IS OF BULK AT MOST 1048576: true; the input reads as it did. -/
def fnNamesUptoRow : OpenClaim := { program := "ytjabehkfajikjaa", sum := "dc07fac3ac1a4a658853d45be18213c779f1a01763de2b2683ffdf3a2d5c7187", func := "lockstair/laws.FnNames", spec := "fnNames", apart := false, narrowed := true }
def FnNamesUptoSaid : Prop := fnNamesUptoRow.holds Try.pinned (OpenSpec.upto fnNamesSpec)

end Rows
end Go.Proofs.Ytjabehkfajikjaa
