/-
  NARROWER THAN 'FOR EVERY INPUT', by the rows' own cells (each row's printed sentence says how): FnDSplit: loops.
  DERIVED. THE GIVEN ROWS OF THIS SEAT. 4 by the template 'for every input the law returns true; each argument reads behind the call as it read before'; 0 by the template 'total and deterministic' (their statements: YtgocklfbgojffaaTotals.lean).
  GIVEN WITH THE SEED: the statements are not yours to turn. If you find one false, say at which input.
  Laid BY PROGRAM, IN A SANDBOX (cutbox-rows.mjs): the forced cells as the released guide's own fill.sh prints them over the translation d66ca4d68f1b6fa3… (all of the seat's roots in one cut). By AI agents, Wed Nov 11 2026. No macro, syntax, notation, axiom, sorry.
-/
import Derived.Test.YtgocklfbgojffaaChecked
import GoSem.Claim
import GoSem.ClaimJoined
import GoSem.ClaimMapViews
import Derived.JoinedTies
import Derived.KernelRfl
namespace Go.Proofs.Ytgocklfbgojffaa
/- THE CELL 'sum', in the pinned program and in every row, IS THE sha256 OF THE DUMP (.gsa) THAT YtgocklfbgojffaaProg.lean LOADS. Nothing in Lean hashes anything: it is a label: what it is worth is what the hold of that sum in a sandbox is worth. -/
noncomputable def Try.pinned : Pinned := { name := "ytgocklfbgojffaa", sum := "d66ca4d68f1b6fa34593b316755090cfe0578b6947d64a63e2b6d9d105f9e920", checked := Try.checked }
namespace Rows
def none {H : Type} : Left H := { results := [], args := [] }

/-- 'laws.FnNPops': WHATEVER THE INPUT: true; the input reads as it did. -/
def fnNPopsSpec : ChangeSpec := { name := "fnNPops", fn := fun _ => fun
  | [d1, d2] => { results := [.lit (.bool true)], args := [d1, d2] }
  | _ => none }
def fnNPopsRow : OpenClaim := { program := "ytgocklfbgojffaa", sum := "d66ca4d68f1b6fa34593b316755090cfe0578b6947d64a63e2b6d9d105f9e920", func := "pub-windbreak/laws.FnNPops", spec := "fnNPops", unfollowed := true, recurses := true, apart := false }
def FnNPopsSaid : Prop := fnNPopsRow.holds Try.pinned (OpenSpec.ofChange fnNPopsSpec)

/-- ITS FALSE NEIGHBOUR: 'it returns false'. Refute it at one input. -/
def fnNPopsWrong : ChangeSpec := { name := "fnNPops", fn := fun _ => fun
  | [d1, d2] => { results := [.lit (.bool false)], args := [d1, d2] }
  | _ => none }
def FnNPopsWrongFalsely : Prop := fnNPopsRow.holds Try.pinned (OpenSpec.ofChange fnNPopsWrong)

/-- 'laws.FnTCommon': WHATEVER THE INPUT: true; the input reads as it did. -/
def fnTCommonSpec : ChangeSpec := { name := "fnTCommon", fn := fun _ => fun
  | [d1, d2] => { results := [.lit (.bool true)], args := [d1, d2] }
  | _ => none }
def fnTCommonRow : OpenClaim := { program := "ytgocklfbgojffaa", sum := "d66ca4d68f1b6fa34593b316755090cfe0578b6947d64a63e2b6d9d105f9e920", func := "pub-windbreak/laws.FnTCommon", spec := "fnTCommon", unfollowed := true, recurses := true, apart := false }
def FnTCommonSaid : Prop := fnTCommonRow.holds Try.pinned (OpenSpec.ofChange fnTCommonSpec)

/-- ITS FALSE NEIGHBOUR: 'it returns false'. Refute it at one input. -/
def fnTCommonWrong : ChangeSpec := { name := "fnTCommon", fn := fun _ => fun
  | [d1, d2] => { results := [.lit (.bool false)], args := [d1, d2] }
  | _ => none }
def FnTCommonWrongFalsely : Prop := fnTCommonRow.holds Try.pinned (OpenSpec.ofChange fnTCommonWrong)

/-- 'laws.FnDSplit': WHATEVER THE INPUT: true; the input reads as it did. -/
def fnDSplitSpec : ChangeSpec := { name := "fnDSplit", fn := fun _ => fun
  | [d1, d2] => { results := [.lit (.bool true)], args := [d1, d2] }
  | _ => none }
def fnDSplitRow : OpenClaim := { program := "ytgocklfbgojffaa", sum := "d66ca4d68f1b6fa34593b316755090cfe0578b6947d64a63e2b6d9d105f9e920", func := "pub-windbreak/laws.FnDSplit", spec := "fnDSplit", unfollowed := true, recurses := true, loops := true, apart := false }
def FnDSplitSaid : Prop := fnDSplitRow.holds Try.pinned (OpenSpec.ofChange fnDSplitSpec)

/-- ITS FALSE NEIGHBOUR: 'it returns false'. Refute it at one input. -/
def fnDSplitWrong : ChangeSpec := { name := "fnDSplit", fn := fun _ => fun
  | [d1, d2] => { results := [.lit (.bool false)], args := [d1, d2] }
  | _ => none }
def FnDSplitWrongFalsely : Prop := fnDSplitRow.holds Try.pinned (OpenSpec.ofChange fnDSplitWrong)

/-- 'laws.FnTSorted': WHATEVER THE INPUT: true; the input reads as it did. -/
def fnTSortedSpec : ChangeSpec := { name := "fnTSorted", fn := fun _ => fun
  | [d] => { results := [.lit (.bool true)], args := [d] }
  | _ => none }
def fnTSortedRow : OpenClaim := { program := "ytgocklfbgojffaa", sum := "d66ca4d68f1b6fa34593b316755090cfe0578b6947d64a63e2b6d9d105f9e920", func := "pub-windbreak/laws.FnTSorted", spec := "fnTSorted", unfollowed := true, recurses := true, apart := false }
def FnTSortedSaid : Prop := fnTSortedRow.holds Try.pinned (OpenSpec.ofChange fnTSortedSpec)

/-- ITS FALSE NEIGHBOUR: 'it returns false'. Refute it at one input. -/
def fnTSortedWrong : ChangeSpec := { name := "fnTSorted", fn := fun _ => fun
  | [d] => { results := [.lit (.bool false)], args := [d] }
  | _ => none }
def FnTSortedWrongFalsely : Prop := fnTSortedRow.holds Try.pinned (OpenSpec.ofChange fnTSortedWrong)

/- THE SECOND FORM. 'bulk': how many values and letters a reading holds, each counted each time it is reached (what is shared counts as often as it is met; a slice's spare places count too). A statement '..UptoSaid' is the law's where the arguments, and the package variables that the reading takes, are together of bulk at most 1048576: NARROWER than '..Said'. Prove '..Said' where nothing that the law and all that it calls make is longer than what came in: it says more and counts as full. Else prove '..UptoSaid'. A law counts once. -/
mutual
def uptoBulk {H : Type} : DataW H → Nat
  | .lit (.string bytes) => bytes.length + 1
  | .lit _ => 1
  | .nil => 1
  | .ptr d => uptoBulk d + 1
  | .slice elems spare => uptoBulkAll elems + uptoBulkAll spare + 1
  | .agg parts => uptoBulkAll parts + 1
  | .iface _ d => uptoBulk d + 1
  | .map entries => uptoBulkEntries entries + 1
  | .held _ => 1
def uptoBulkAll {H : Type} : List (DataW H) → Nat
  | [] => 0
  | d :: r => uptoBulk d + uptoBulkAll r
def uptoBulkEntries {H : Type} : List (Lit × DataW H) → Nat
  | [] => 0
  | x :: r => uptoBulkEntry x + uptoBulkEntries r
def uptoBulkEntry {H : Type} : Lit × DataW H → Nat
  | (.string bytes, d) => bytes.length + uptoBulk d + 1
  | (_, d) => uptoBulk d + 1
 end
def uptoSmall : (H : Type) → List (DataW H) → Bool := fun _ ds => decide (uptoBulkAll ds ≤ 1048576)
def OpenSpec.upto (s : _root_.Go.ChangeSpec) : _root_.Go.OpenSpec := { _root_.Go.OpenSpec.ofChange s with cond := some uptoSmall }

/-- 'laws.FnNPops', WHERE WHAT IT READS IS OF BULK AT MOST 1048576: true; the input reads as it did. -/
def fnNPopsUptoRow : OpenClaim := { program := "ytgocklfbgojffaa", sum := "d66ca4d68f1b6fa34593b316755090cfe0578b6947d64a63e2b6d9d105f9e920", func := "pub-windbreak/laws.FnNPops", spec := "fnNPops", unfollowed := true, recurses := true, apart := false, narrowed := true }
def FnNPopsUptoSaid : Prop := fnNPopsUptoRow.holds Try.pinned (OpenSpec.upto fnNPopsSpec)

/-- 'laws.FnTCommon', WHERE WHAT IT READS IS OF BULK AT MOST 1048576: true; the input reads as it did. -/
def fnTCommonUptoRow : OpenClaim := { program := "ytgocklfbgojffaa", sum := "d66ca4d68f1b6fa34593b316755090cfe0578b6947d64a63e2b6d9d105f9e920", func := "pub-windbreak/laws.FnTCommon", spec := "fnTCommon", unfollowed := true, recurses := true, apart := false, narrowed := true }
def FnTCommonUptoSaid : Prop := fnTCommonUptoRow.holds Try.pinned (OpenSpec.upto fnTCommonSpec)

/-- 'laws.FnDSplit', WHERE WHAT IT READS IS OF BULK AT MOST 1048576: true; the input reads as it did. -/
def fnDSplitUptoRow : OpenClaim := { program := "ytgocklfbgojffaa", sum := "d66ca4d68f1b6fa34593b316755090cfe0578b6947d64a63e2b6d9d105f9e920", func := "pub-windbreak/laws.FnDSplit", spec := "fnDSplit", unfollowed := true, recurses := true, loops := true, apart := false, narrowed := true }
def FnDSplitUptoSaid : Prop := fnDSplitUptoRow.holds Try.pinned (OpenSpec.upto fnDSplitSpec)

/-- 'laws.FnTSorted', WHERE WHAT IT READS IS OF BULK AT MOST 1048576: true; the input reads as it did. -/
def fnTSortedUptoRow : OpenClaim := { program := "ytgocklfbgojffaa", sum := "d66ca4d68f1b6fa34593b316755090cfe0578b6947d64a63e2b6d9d105f9e920", func := "pub-windbreak/laws.FnTSorted", spec := "fnTSorted", unfollowed := true, recurses := true, apart := false, narrowed := true }
def FnTSortedUptoSaid : Prop := fnTSortedUptoRow.holds Try.pinned (OpenSpec.upto fnTSortedSpec)

end Rows
end Go.Proofs.Ytgocklfbgojffaa
