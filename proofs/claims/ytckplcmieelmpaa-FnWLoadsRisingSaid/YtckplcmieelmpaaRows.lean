/-
  No cell of these rows narrows 'for every input' (looked for: loops, veiled, ifaces, maps, wideKeys, modest, calm, conditions, laid).
  DERIVED. THE GIVEN ROWS OF THIS SEAT. 8 by the template 'for every input the law returns true; each argument reads behind the call as it read before'; 0 by the template 'total and deterministic' (their statements: YtckplcmieelmpaaTotals.lean).
  GIVEN WITH THE SEED: the statements are not yours to turn. If you find one false, say at which input.
  Laid BY PROGRAM, IN A SANDBOX (cutbox-rows.mjs): the forced cells as the released guide's own fill.sh prints them over the translation c77472c9a7f1b52a… (all of the seat's roots in one cut). By AI agents, Wed Nov 11 2026. No macro, syntax, notation, axiom, sorry.
-/
import Derived.Test.YtckplcmieelmpaaChecked
import GoSem.Claim
import GoSem.ClaimJoined
import GoSem.ClaimMapViews
import Derived.JoinedTies
import Derived.KernelRfl
namespace Go.Proofs.Ytckplcmieelmpaa
/- THE CELL 'sum', in the pinned program and in every row, IS THE sha256 OF THE DUMP (.gsa) THAT YtckplcmieelmpaaProg.lean LOADS. Nothing in Lean hashes anything: it is a label: what it is worth is what the hold of that sum in a sandbox is worth. -/
noncomputable def Try.pinned : Pinned := { name := "ytckplcmieelmpaa", sum := "c77472c9a7f1b52adf2e108d730f76e2d02ecb7b60887743ca06e0126d9ce94d", checked := Try.checked }
namespace Rows
def none {H : Type} : Left H := { results := [], args := [] }

/-- 'laws.FnWIndex': WHATEVER THE INPUT: true; the input reads as it did. -/
def fnWIndexSpec : ChangeSpec := { name := "fnWIndex", fn := fun _ => fun
  | [d1, d2, d3] => { results := [.lit (.bool true)], args := [d1, d2, d3] }
  | _ => none }
def fnWIndexRow : OpenClaim := { program := "ytckplcmieelmpaa", sum := "c77472c9a7f1b52adf2e108d730f76e2d02ecb7b60887743ca06e0126d9ce94d", func := "pub-windbreak/laws.FnWIndex", spec := "fnWIndex", unfollowed := true, recurses := true, apart := false }
def FnWIndexSaid : Prop := fnWIndexRow.holds Try.pinned (OpenSpec.ofChange fnWIndexSpec)

/-- ITS FALSE NEIGHBOUR: 'it returns false'. Refute it at one input. -/
def fnWIndexWrong : ChangeSpec := { name := "fnWIndex", fn := fun _ => fun
  | [d1, d2, d3] => { results := [.lit (.bool false)], args := [d1, d2, d3] }
  | _ => none }
def FnWIndexWrongFalsely : Prop := fnWIndexRow.holds Try.pinned (OpenSpec.ofChange fnWIndexWrong)

/-- 'laws.FnConverges': WHATEVER THE INPUT: true; the input reads as it did. -/
def fnConvergesSpec : ChangeSpec := { name := "fnConverges", fn := fun _ => fun
  | [d1, d2, d3] => { results := [.lit (.bool true)], args := [d1, d2, d3] }
  | _ => none }
def fnConvergesRow : OpenClaim := { program := "ytckplcmieelmpaa", sum := "c77472c9a7f1b52adf2e108d730f76e2d02ecb7b60887743ca06e0126d9ce94d", func := "pub-windbreak/laws.FnConverges", spec := "fnConverges", unfollowed := true, recurses := true, apart := false }
def FnConvergesSaid : Prop := fnConvergesRow.holds Try.pinned (OpenSpec.ofChange fnConvergesSpec)

/-- ITS FALSE NEIGHBOUR: 'it returns false'. Refute it at one input. -/
def fnConvergesWrong : ChangeSpec := { name := "fnConverges", fn := fun _ => fun
  | [d1, d2, d3] => { results := [.lit (.bool false)], args := [d1, d2, d3] }
  | _ => none }
def FnConvergesWrongFalsely : Prop := fnConvergesRow.holds Try.pinned (OpenSpec.ofChange fnConvergesWrong)

/-- 'laws.FnWLoadsRising': WHATEVER THE INPUT: true; the input reads as it did. -/
def fnWLoadsRisingSpec : ChangeSpec := { name := "fnWLoadsRising", fn := fun _ => fun
  | [d1, d2] => { results := [.lit (.bool true)], args := [d1, d2] }
  | _ => none }
def fnWLoadsRisingRow : OpenClaim := { program := "ytckplcmieelmpaa", sum := "c77472c9a7f1b52adf2e108d730f76e2d02ecb7b60887743ca06e0126d9ce94d", func := "pub-windbreak/laws.FnWLoadsRising", spec := "fnWLoadsRising", unfollowed := true, recurses := true, apart := false }
def FnWLoadsRisingSaid : Prop := fnWLoadsRisingRow.holds Try.pinned (OpenSpec.ofChange fnWLoadsRisingSpec)

/-- ITS FALSE NEIGHBOUR: 'it returns false'. Refute it at one input. -/
def fnWLoadsRisingWrong : ChangeSpec := { name := "fnWLoadsRising", fn := fun _ => fun
  | [d1, d2] => { results := [.lit (.bool false)], args := [d1, d2] }
  | _ => none }
def FnWLoadsRisingWrongFalsely : Prop := fnWLoadsRisingRow.holds Try.pinned (OpenSpec.ofChange fnWLoadsRisingWrong)

/-- 'laws.FnSetAlgebra': WHATEVER THE INPUT: true; the input reads as it did. -/
def fnSetAlgebraSpec : ChangeSpec := { name := "fnSetAlgebra", fn := fun _ => fun
  | [d1, d2, d3] => { results := [.lit (.bool true)], args := [d1, d2, d3] }
  | _ => none }
def fnSetAlgebraRow : OpenClaim := { program := "ytckplcmieelmpaa", sum := "c77472c9a7f1b52adf2e108d730f76e2d02ecb7b60887743ca06e0126d9ce94d", func := "pub-windbreak/laws.FnSetAlgebra", spec := "fnSetAlgebra", unfollowed := true, recurses := true, apart := false }
def FnSetAlgebraSaid : Prop := fnSetAlgebraRow.holds Try.pinned (OpenSpec.ofChange fnSetAlgebraSpec)

/-- ITS FALSE NEIGHBOUR: 'it returns false'. Refute it at one input. -/
def fnSetAlgebraWrong : ChangeSpec := { name := "fnSetAlgebra", fn := fun _ => fun
  | [d1, d2, d3] => { results := [.lit (.bool false)], args := [d1, d2, d3] }
  | _ => none }
def FnSetAlgebraWrongFalsely : Prop := fnSetAlgebraRow.holds Try.pinned (OpenSpec.ofChange fnSetAlgebraWrong)

/-- 'laws.FnWGets': WHATEVER THE INPUT: true; the input reads as it did. -/
def fnWGetsSpec : ChangeSpec := { name := "fnWGets", fn := fun _ => fun
  | [d1, d2, d3] => { results := [.lit (.bool true)], args := [d1, d2, d3] }
  | _ => none }
def fnWGetsRow : OpenClaim := { program := "ytckplcmieelmpaa", sum := "c77472c9a7f1b52adf2e108d730f76e2d02ecb7b60887743ca06e0126d9ce94d", func := "pub-windbreak/laws.FnWGets", spec := "fnWGets", unfollowed := true, recurses := true, apart := false }
def FnWGetsSaid : Prop := fnWGetsRow.holds Try.pinned (OpenSpec.ofChange fnWGetsSpec)

/-- ITS FALSE NEIGHBOUR: 'it returns false'. Refute it at one input. -/
def fnWGetsWrong : ChangeSpec := { name := "fnWGets", fn := fun _ => fun
  | [d1, d2, d3] => { results := [.lit (.bool false)], args := [d1, d2, d3] }
  | _ => none }
def FnWGetsWrongFalsely : Prop := fnWGetsRow.holds Try.pinned (OpenSpec.ofChange fnWGetsWrong)

/-- 'laws.FnExactWDeleteAt': WHATEVER THE INPUT: true; the input reads as it did. -/
def fnExactWDeleteAtSpec : ChangeSpec := { name := "fnExactWDeleteAt", fn := fun _ => fun
  | [d1, d2, d3] => { results := [.lit (.bool true)], args := [d1, d2, d3] }
  | _ => none }
def fnExactWDeleteAtRow : OpenClaim := { program := "ytckplcmieelmpaa", sum := "c77472c9a7f1b52adf2e108d730f76e2d02ecb7b60887743ca06e0126d9ce94d", func := "pub-windbreak/laws.FnExactWDeleteAt", spec := "fnExactWDeleteAt", unfollowed := true, recurses := true, apart := false }
def FnExactWDeleteAtSaid : Prop := fnExactWDeleteAtRow.holds Try.pinned (OpenSpec.ofChange fnExactWDeleteAtSpec)

/-- ITS FALSE NEIGHBOUR: 'it returns false'. Refute it at one input. -/
def fnExactWDeleteAtWrong : ChangeSpec := { name := "fnExactWDeleteAt", fn := fun _ => fun
  | [d1, d2, d3] => { results := [.lit (.bool false)], args := [d1, d2, d3] }
  | _ => none }
def FnExactWDeleteAtWrongFalsely : Prop := fnExactWDeleteAtRow.holds Try.pinned (OpenSpec.ofChange fnExactWDeleteAtWrong)

/-- 'laws.FnTIterates': WHATEVER THE INPUT: true; the input reads as it did. -/
def fnTIteratesSpec : ChangeSpec := { name := "fnTIterates", fn := fun _ => fun
  | [d1, d2] => { results := [.lit (.bool true)], args := [d1, d2] }
  | _ => none }
def fnTIteratesRow : OpenClaim := { program := "ytckplcmieelmpaa", sum := "c77472c9a7f1b52adf2e108d730f76e2d02ecb7b60887743ca06e0126d9ce94d", func := "pub-windbreak/laws.FnTIterates", spec := "fnTIterates", unfollowed := true, recurses := true, apart := false }
def FnTIteratesSaid : Prop := fnTIteratesRow.holds Try.pinned (OpenSpec.ofChange fnTIteratesSpec)

/-- ITS FALSE NEIGHBOUR: 'it returns false'. Refute it at one input. -/
def fnTIteratesWrong : ChangeSpec := { name := "fnTIterates", fn := fun _ => fun
  | [d1, d2] => { results := [.lit (.bool false)], args := [d1, d2] }
  | _ => none }
def FnTIteratesWrongFalsely : Prop := fnTIteratesRow.holds Try.pinned (OpenSpec.ofChange fnTIteratesWrong)

/-- 'laws.FnNPops': WHATEVER THE INPUT: true; the input reads as it did. -/
def fnNPopsSpec : ChangeSpec := { name := "fnNPops", fn := fun _ => fun
  | [d1, d2] => { results := [.lit (.bool true)], args := [d1, d2] }
  | _ => none }
def fnNPopsRow : OpenClaim := { program := "ytckplcmieelmpaa", sum := "c77472c9a7f1b52adf2e108d730f76e2d02ecb7b60887743ca06e0126d9ce94d", func := "pub-windbreak/laws.FnNPops", spec := "fnNPops", unfollowed := true, recurses := true, apart := false }
def FnNPopsSaid : Prop := fnNPopsRow.holds Try.pinned (OpenSpec.ofChange fnNPopsSpec)

/-- ITS FALSE NEIGHBOUR: 'it returns false'. Refute it at one input. -/
def fnNPopsWrong : ChangeSpec := { name := "fnNPops", fn := fun _ => fun
  | [d1, d2] => { results := [.lit (.bool false)], args := [d1, d2] }
  | _ => none }
def FnNPopsWrongFalsely : Prop := fnNPopsRow.holds Try.pinned (OpenSpec.ofChange fnNPopsWrong)

/- THE SECOND FORM. 'bulk': how many values and letters a reading holds, each counted each time it is reached (what is shared counts as often as it is met; a slice's spare places count too). A statement '..UptoSaid' is the law's where the arguments, and the package variables that the reading takes, are together of bulk at most 1048576: NARROWER than '..Said'. Prove '..Said' where nothing that the law and all that it calls make is longer than what came in: it says more and counts as full. Else prove '..UptoSaid'. A law counts once. -/
mutual
def uptoBulk {H : Type} : DataW H → Nat
  | .lit (.string bytes) => bytes.length + 1
  | .lit _ => 1
  | .nil => 1
  | .ptr d => uptoBulk d + 1
  | .slice elems spare => uptoBulkAll elems + uptoBulkAll spare + 1
  | .agg parts => uptoBulkAll parts + 1
  | .iface _ d => uptoBulk d + 1
  | .map entries => uptoBulkEntries entries + 1
  | .held _ => 1
def uptoBulkAll {H : Type} : List (DataW H) → Nat
  | [] => 0
  | d :: r => uptoBulk d + uptoBulkAll r
def uptoBulkEntries {H : Type} : List (Lit × DataW H) → Nat
  | [] => 0
  | x :: r => uptoBulkEntry x + uptoBulkEntries r
def uptoBulkEntry {H : Type} : Lit × DataW H → Nat
  | (.string bytes, d) => bytes.length + uptoBulk d + 1
  | (_, d) => uptoBulk d + 1
 end
def uptoSmall : (H : Type) → List (DataW H) → Bool := fun _ ds => decide (uptoBulkAll ds ≤ 1048576)
def OpenSpec.upto (s : _root_.Go.ChangeSpec) : _root_.Go.OpenSpec := { _root_.Go.OpenSpec.ofChange s with cond := some uptoSmall }

/-- 'laws.FnWIndex', WHERE WHAT IT READS IS OF BULK AT MOST 1048576: true; the input reads as it did. -/
def fnWIndexUptoRow : OpenClaim := { program := "ytckplcmieelmpaa", sum := "c77472c9a7f1b52adf2e108d730f76e2d02ecb7b60887743ca06e0126d9ce94d", func := "pub-windbreak/laws.FnWIndex", spec := "fnWIndex", unfollowed := true, recurses := true, apart := false, narrowed := true }
def FnWIndexUptoSaid : Prop := fnWIndexUptoRow.holds Try.pinned (OpenSpec.upto fnWIndexSpec)

/-- 'laws.FnConverges', WHERE WHAT IT READS IS OF BULK AT MOST 1048576: true; the input reads as it did. -/
def fnConvergesUptoRow : OpenClaim := { program := "ytckplcmieelmpaa", sum := "c77472c9a7f1b52adf2e108d730f76e2d02ecb7b60887743ca06e0126d9ce94d", func := "pub-windbreak/laws.FnConverges", spec := "fnConverges", unfollowed := true, recurses := true, apart := false, narrowed := true }
def FnConvergesUptoSaid : Prop := fnConvergesUptoRow.holds Try.pinned (OpenSpec.upto fnConvergesSpec)

/-- 'laws.FnWLoadsRising', WHERE WHAT IT READS IS OF BULK AT MOST 1048576: true; the input reads as it did. -/
def fnWLoadsRisingUptoRow : OpenClaim := { program := "ytckplcmieelmpaa", sum := "c77472c9a7f1b52adf2e108d730f76e2d02ecb7b60887743ca06e0126d9ce94d", func := "pub-windbreak/laws.FnWLoadsRising", spec := "fnWLoadsRising", unfollowed := true, recurses := true, apart := false, narrowed := true }
def FnWLoadsRisingUptoSaid : Prop := fnWLoadsRisingUptoRow.holds Try.pinned (OpenSpec.upto fnWLoadsRisingSpec)

/-- 'laws.FnSetAlgebra', WHERE WHAT IT READS IS OF BULK AT MOST 1048576: true; the input reads as it did. -/
def fnSetAlgebraUptoRow : OpenClaim := { program := "ytckplcmieelmpaa", sum := "c77472c9a7f1b52adf2e108d730f76e2d02ecb7b60887743ca06e0126d9ce94d", func := "pub-windbreak/laws.FnSetAlgebra", spec := "fnSetAlgebra", unfollowed := true, recurses := true, apart := false, narrowed := true }
def FnSetAlgebraUptoSaid : Prop := fnSetAlgebraUptoRow.holds Try.pinned (OpenSpec.upto fnSetAlgebraSpec)

/-- 'laws.FnWGets', WHERE WHAT IT READS IS OF BULK AT MOST 1048576: true; the input reads as it did. -/
def fnWGetsUptoRow : OpenClaim := { program := "ytckplcmieelmpaa", sum := "c77472c9a7f1b52adf2e108d730f76e2d02ecb7b60887743ca06e0126d9ce94d", func := "pub-windbreak/laws.FnWGets", spec := "fnWGets", unfollowed := true, recurses := true, apart := false, narrowed := true }
def FnWGetsUptoSaid : Prop := fnWGetsUptoRow.holds Try.pinned (OpenSpec.upto fnWGetsSpec)

/-- 'laws.FnExactWDeleteAt', WHERE WHAT IT READS IS OF BULK AT MOST 1048576: true; the input reads as it did. -/
def fnExactWDeleteAtUptoRow : OpenClaim := { program := "ytckplcmieelmpaa", sum := "c77472c9a7f1b52adf2e108d730f76e2d02ecb7b60887743ca06e0126d9ce94d", func := "pub-windbreak/laws.FnExactWDeleteAt", spec := "fnExactWDeleteAt", unfollowed := true, recurses := true, apart := false, narrowed := true }
def FnExactWDeleteAtUptoSaid : Prop := fnExactWDeleteAtUptoRow.holds Try.pinned (OpenSpec.upto fnExactWDeleteAtSpec)

/-- 'laws.FnTIterates', WHERE WHAT IT READS IS OF BULK AT MOST 1048576: true; the input reads as it did. -/
def fnTIteratesUptoRow : OpenClaim := { program := "ytckplcmieelmpaa", sum := "c77472c9a7f1b52adf2e108d730f76e2d02ecb7b60887743ca06e0126d9ce94d", func := "pub-windbreak/laws.FnTIterates", spec := "fnTIterates", unfollowed := true, recurses := true, apart := false, narrowed := true }
def FnTIteratesUptoSaid : Prop := fnTIteratesUptoRow.holds Try.pinned (OpenSpec.upto fnTIteratesSpec)

/-- 'laws.FnNPops', WHERE WHAT IT READS IS OF BULK AT MOST 1048576: true; the input reads as it did. -/
def fnNPopsUptoRow : OpenClaim := { program := "ytckplcmieelmpaa", sum := "c77472c9a7f1b52adf2e108d730f76e2d02ecb7b60887743ca06e0126d9ce94d", func := "pub-windbreak/laws.FnNPops", spec := "fnNPops", unfollowed := true, recurses := true, apart := false, narrowed := true }
def FnNPopsUptoSaid : Prop := fnNPopsUptoRow.holds Try.pinned (OpenSpec.upto fnNPopsSpec)

end Rows
end Go.Proofs.Ytckplcmieelmpaa
