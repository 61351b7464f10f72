/-
  NARROWER THAN 'FOR EVERY INPUT', by the rows' own cells (each row's printed sentence says how): FnAttribute: loops · FnRequest: loops.
  DERIVED. THE GIVEN ROWS OF THIS SEAT. 8 by the template 'for every input the law returns true; each argument reads behind the call as it read before'; 0 by the template 'total and deterministic' (their statements: YtbogknjgjbhagaaTotals.lean).
  GIVEN WITH THE SEED: the statements are not yours to turn. If you find one false, say at which input.
  Laid BY PROGRAM, IN A SANDBOX (cutbox-rows.mjs): the forced cells as the released guide's own fill.sh prints them over the translation 3485d5bcbe651d3a… (all of the seat's roots in one cut). By AI agents, Wed Nov 11 2026. No macro, syntax, notation, axiom, sorry.
-/
import Derived.Test.YtbogknjgjbhagaaChecked
import GoSem.Claim
import GoSem.ClaimJoined
import GoSem.ClaimMapViews
import Derived.JoinedTies
import Derived.KernelRfl
namespace Go.Proofs.Ytbogknjgjbhagaa
/- THE CELL 'sum', in the pinned program and in every row, IS THE sha256 OF THE DUMP (.gsa) THAT YtbogknjgjbhagaaProg.lean LOADS. Nothing in Lean hashes anything: it is a label: what it is worth is what the hold of that sum in a sandbox is worth. -/
noncomputable def Try.pinned : Pinned := { name := "ytbogknjgjbhagaa", sum := "3485d5bcbe651d3a884bcf8fb0957f75f9fce4a908cc51d5b26782724dbab1ae", checked := Try.checked }
namespace Rows
def none {H : Type} : Left H := { results := [], args := [] }

/-- 'laws.FnSwap': WHATEVER THE INPUT: true; the input reads as it did. -/
def fnSwapSpec : ChangeSpec := { name := "fnSwap", fn := fun _ => fun
  | [d1, d2, d3] => { results := [.lit (.bool true)], args := [d1, d2, d3] }
  | _ => none }
def fnSwapRow : OpenClaim := { program := "ytbogknjgjbhagaa", sum := "3485d5bcbe651d3a884bcf8fb0957f75f9fce4a908cc51d5b26782724dbab1ae", func := "netlinknl/laws.FnSwap", spec := "fnSwap", apart := false }
def FnSwapSaid : Prop := fnSwapRow.holds Try.pinned (OpenSpec.ofChange fnSwapSpec)

/-- ITS FALSE NEIGHBOUR: 'it returns false'. Refute it at one input. -/
def fnSwapWrong : ChangeSpec := { name := "fnSwap", fn := fun _ => fun
  | [d1, d2, d3] => { results := [.lit (.bool false)], args := [d1, d2, d3] }
  | _ => none }
def FnSwapWrongFalsely : Prop := fnSwapRow.holds Try.pinned (OpenSpec.ofChange fnSwapWrong)

/-- 'laws.FnLabels': WHATEVER THE INPUT: true; the input reads as it did. -/
def fnLabelsSpec : ChangeSpec := { name := "fnLabels", fn := fun _ => fun
  | [d] => { results := [.lit (.bool true)], args := [d] }
  | _ => none }
def fnLabelsRow : OpenClaim := { program := "ytbogknjgjbhagaa", sum := "3485d5bcbe651d3a884bcf8fb0957f75f9fce4a908cc51d5b26782724dbab1ae", func := "netlinknl/laws.FnLabels", spec := "fnLabels", unfollowed := true, recurses := true, apart := false }
def FnLabelsSaid : Prop := fnLabelsRow.holds Try.pinned (OpenSpec.ofChange fnLabelsSpec)

/-- ITS FALSE NEIGHBOUR: 'it returns false'. Refute it at one input. -/
def fnLabelsWrong : ChangeSpec := { name := "fnLabels", fn := fun _ => fun
  | [d] => { results := [.lit (.bool false)], args := [d] }
  | _ => none }
def FnLabelsWrongFalsely : Prop := fnLabelsRow.holds Try.pinned (OpenSpec.ofChange fnLabelsWrong)

/-- 'laws.FnNumber': WHATEVER THE INPUT: true; the input reads as it did. -/
def fnNumberSpec : ChangeSpec := { name := "fnNumber", fn := fun _ => fun
  | [d1, d2, d3] => { results := [.lit (.bool true)], args := [d1, d2, d3] }
  | _ => none }
def fnNumberRow : OpenClaim := { program := "ytbogknjgjbhagaa", sum := "3485d5bcbe651d3a884bcf8fb0957f75f9fce4a908cc51d5b26782724dbab1ae", func := "netlinknl/laws.FnNumber", spec := "fnNumber", unfollowed := true, recurses := true, apart := false }
def FnNumberSaid : Prop := fnNumberRow.holds Try.pinned (OpenSpec.ofChange fnNumberSpec)

/-- ITS FALSE NEIGHBOUR: 'it returns false'. Refute it at one input. -/
def fnNumberWrong : ChangeSpec := { name := "fnNumber", fn := fun _ => fun
  | [d1, d2, d3] => { results := [.lit (.bool false)], args := [d1, d2, d3] }
  | _ => none }
def FnNumberWrongFalsely : Prop := fnNumberRow.holds Try.pinned (OpenSpec.ofChange fnNumberWrong)

/-- 'laws.FnParse': WHATEVER THE INPUT: true; the input reads as it did. -/
def fnParseSpec : ChangeSpec := { name := "fnParse", fn := fun _ => fun
  | [d1, d2] => { results := [.lit (.bool true)], args := [d1, d2] }
  | _ => none }
def fnParseRow : OpenClaim := { program := "ytbogknjgjbhagaa", sum := "3485d5bcbe651d3a884bcf8fb0957f75f9fce4a908cc51d5b26782724dbab1ae", func := "netlinknl/laws.FnParse", spec := "fnParse", unfollowed := true, recurses := true, apart := false }
def FnParseSaid : Prop := fnParseRow.holds Try.pinned (OpenSpec.ofChange fnParseSpec)

/-- ITS FALSE NEIGHBOUR: 'it returns false'. Refute it at one input. -/
def fnParseWrong : ChangeSpec := { name := "fnParse", fn := fun _ => fun
  | [d1, d2] => { results := [.lit (.bool false)], args := [d1, d2] }
  | _ => none }
def FnParseWrongFalsely : Prop := fnParseRow.holds Try.pinned (OpenSpec.ofChange fnParseWrong)

/-- 'laws.FnAttribute': WHATEVER THE INPUT: true; the input reads as it did. -/
def fnAttributeSpec : ChangeSpec := { name := "fnAttribute", fn := fun _ => fun
  | [d] => { results := [.lit (.bool true)], args := [d] }
  | _ => none }
def fnAttributeRow : OpenClaim := { program := "ytbogknjgjbhagaa", sum := "3485d5bcbe651d3a884bcf8fb0957f75f9fce4a908cc51d5b26782724dbab1ae", func := "netlinknl/laws.FnAttribute", spec := "fnAttribute", unfollowed := true, recurses := true, loops := true, apart := false }
def FnAttributeSaid : Prop := fnAttributeRow.holds Try.pinned (OpenSpec.ofChange fnAttributeSpec)

/-- ITS FALSE NEIGHBOUR: 'it returns false'. Refute it at one input. -/
def fnAttributeWrong : ChangeSpec := { name := "fnAttribute", fn := fun _ => fun
  | [d] => { results := [.lit (.bool false)], args := [d] }
  | _ => none }
def FnAttributeWrongFalsely : Prop := fnAttributeRow.holds Try.pinned (OpenSpec.ofChange fnAttributeWrong)

/-- 'laws.FnRequest': WHATEVER THE INPUT: true; the input reads as it did. -/
def fnRequestSpec : ChangeSpec := { name := "fnRequest", fn := fun _ => fun
  | [d1, d2, d3, d4, d5] => { results := [.lit (.bool true)], args := [d1, d2, d3, d4, d5] }
  | _ => none }
def fnRequestRow : OpenClaim := { program := "ytbogknjgjbhagaa", sum := "3485d5bcbe651d3a884bcf8fb0957f75f9fce4a908cc51d5b26782724dbab1ae", func := "netlinknl/laws.FnRequest", spec := "fnRequest", unfollowed := true, recurses := true, loops := true, apart := false }
def FnRequestSaid : Prop := fnRequestRow.holds Try.pinned (OpenSpec.ofChange fnRequestSpec)

/-- ITS FALSE NEIGHBOUR: 'it returns false'. Refute it at one input. -/
def fnRequestWrong : ChangeSpec := { name := "fnRequest", fn := fun _ => fun
  | [d1, d2, d3, d4, d5] => { results := [.lit (.bool false)], args := [d1, d2, d3, d4, d5] }
  | _ => none }
def FnRequestWrongFalsely : Prop := fnRequestRow.holds Try.pinned (OpenSpec.ofChange fnRequestWrong)

/-- 'laws.FnStructure': WHATEVER THE INPUT: true; the input reads as it did. -/
def fnStructureSpec : ChangeSpec := { name := "fnStructure", fn := fun _ => fun
  | [d1, d2] => { results := [.lit (.bool true)], args := [d1, d2] }
  | _ => none }
def fnStructureRow : OpenClaim := { program := "ytbogknjgjbhagaa", sum := "3485d5bcbe651d3a884bcf8fb0957f75f9fce4a908cc51d5b26782724dbab1ae", func := "netlinknl/laws.FnStructure", spec := "fnStructure", unfollowed := true, recurses := true, apart := false }
def FnStructureSaid : Prop := fnStructureRow.holds Try.pinned (OpenSpec.ofChange fnStructureSpec)

/-- ITS FALSE NEIGHBOUR: 'it returns false'. Refute it at one input. -/
def fnStructureWrong : ChangeSpec := { name := "fnStructure", fn := fun _ => fun
  | [d1, d2] => { results := [.lit (.bool false)], args := [d1, d2] }
  | _ => none }
def FnStructureWrongFalsely : Prop := fnStructureRow.holds Try.pinned (OpenSpec.ofChange fnStructureWrong)

/-- 'laws.FnParseMap': WHATEVER THE INPUT: true; the input reads as it did. -/
def fnParseMapSpec : ChangeSpec := { name := "fnParseMap", fn := fun _ => fun
  | [d] => { results := [.lit (.bool true)], args := [d] }
  | _ => none }
def fnParseMapRow : OpenClaim := { program := "ytbogknjgjbhagaa", sum := "3485d5bcbe651d3a884bcf8fb0957f75f9fce4a908cc51d5b26782724dbab1ae", func := "netlinknl/laws.FnParseMap", spec := "fnParseMap", unfollowed := true, recurses := true, apart := false }
def FnParseMapSaid : Prop := fnParseMapRow.holds Try.pinned (OpenSpec.ofChange fnParseMapSpec)

/-- ITS FALSE NEIGHBOUR: 'it returns false'. Refute it at one input. -/
def fnParseMapWrong : ChangeSpec := { name := "fnParseMap", fn := fun _ => fun
  | [d] => { results := [.lit (.bool false)], args := [d] }
  | _ => none }
def FnParseMapWrongFalsely : Prop := fnParseMapRow.holds Try.pinned (OpenSpec.ofChange fnParseMapWrong)

/- THE SECOND FORM. 'bulk': how many values and letters a reading holds, each counted each time it is reached (what is shared counts as often as it is met; a slice's spare places count too). A statement '..UptoSaid' is the law's where the arguments, and the package variables that the reading takes, are together of bulk at most 1048576: NARROWER than '..Said'. Prove '..Said' where nothing that the law and all that it calls make is longer than what came in: it says more and counts as full. Else prove '..UptoSaid'. A law counts once. -/
mutual
def uptoBulk {H : Type} : DataW H → Nat
  | .lit (.string bytes) => bytes.length + 1
  | .lit _ => 1
  | .nil => 1
  | .ptr d => uptoBulk d + 1
  | .slice elems spare => uptoBulkAll elems + uptoBulkAll spare + 1
  | .agg parts => uptoBulkAll parts + 1
  | .iface _ d => uptoBulk d + 1
  | .map entries => uptoBulkEntries entries + 1
  | .held _ => 1
def uptoBulkAll {H : Type} : List (DataW H) → Nat
  | [] => 0
  | d :: r => uptoBulk d + uptoBulkAll r
def uptoBulkEntries {H : Type} : List (Lit × DataW H) → Nat
  | [] => 0
  | x :: r => uptoBulkEntry x + uptoBulkEntries r
def uptoBulkEntry {H : Type} : Lit × DataW H → Nat
  | (.string bytes, d) => bytes.length + uptoBulk d + 1
  | (_, d) => uptoBulk d + 1
 end
def uptoSmall : (H : Type) → List (DataW H) → Bool := fun _ ds => decide (uptoBulkAll ds ≤ 1048576)
def OpenSpec.upto (s : _root_.Go.ChangeSpec) : _root_.Go.OpenSpec := { _root_.Go.OpenSpec.ofChange s with cond := some uptoSmall }

/-- 'laws.FnSwap', WHERE WHAT IT READS IS OF BULK AT MOST 1048576: true; the input reads as it did. -/
def fnSwapUptoRow : OpenClaim := { program := "ytbogknjgjbhagaa", sum := "3485d5bcbe651d3a884bcf8fb0957f75f9fce4a908cc51d5b26782724dbab1ae", func := "netlinknl/laws.FnSwap", spec := "fnSwap", apart := false, narrowed := true }
def FnSwapUptoSaid : Prop := fnSwapUptoRow.holds Try.pinned (OpenSpec.upto fnSwapSpec)

/-- 'laws.FnLabels', WHERE WHAT IT READS IS OF BULK AT MOST 1048576: true; the input reads as it did. -/
def fnLabelsUptoRow : OpenClaim := { program := "ytbogknjgjbhagaa", sum := "3485d5bcbe651d3a884bcf8fb0957f75f9fce4a908cc51d5b26782724dbab1ae", func := "netlinknl/laws.FnLabels", spec := "fnLabels", unfollowed := true, recurses := true, apart := false, narrowed := true }
def FnLabelsUptoSaid : Prop := fnLabelsUptoRow.holds Try.pinned (OpenSpec.upto fnLabelsSpec)

/-- 'laws.FnNumber', WHERE WHAT IT READS IS OF BULK AT MOST 1048576: true; the input reads as it did. -/
def fnNumberUptoRow : OpenClaim := { program := "ytbogknjgjbhagaa", sum := "3485d5bcbe651d3a884bcf8fb0957f75f9fce4a908cc51d5b26782724dbab1ae", func := "netlinknl/laws.FnNumber", spec := "fnNumber", unfollowed := true, recurses := true, apart := false, narrowed := true }
def FnNumberUptoSaid : Prop := fnNumberUptoRow.holds Try.pinned (OpenSpec.upto fnNumberSpec)

/-- 'laws.FnParse', WHERE WHAT IT READS IS OF BULK AT MOST 1048576: true; the input reads as it did. -/
def fnParseUptoRow : OpenClaim := { program := "ytbogknjgjbhagaa", sum := "3485d5bcbe651d3a884bcf8fb0957f75f9fce4a908cc51d5b26782724dbab1ae", func := "netlinknl/laws.FnParse", spec := "fnParse", unfollowed := true, recurses := true, apart := false, narrowed := true }
def FnParseUptoSaid : Prop := fnParseUptoRow.holds Try.pinned (OpenSpec.upto fnParseSpec)

/-- 'laws.FnAttribute', WHERE WHAT IT READS IS OF BULK AT MOST 1048576: true; the input reads as it did. -/
def fnAttributeUptoRow : OpenClaim := { program := "ytbogknjgjbhagaa", sum := "3485d5bcbe651d3a884bcf8fb0957f75f9fce4a908cc51d5b26782724dbab1ae", func := "netlinknl/laws.FnAttribute", spec := "fnAttribute", unfollowed := true, recurses := true, loops := true, apart := false, narrowed := true }
def FnAttributeUptoSaid : Prop := fnAttributeUptoRow.holds Try.pinned (OpenSpec.upto fnAttributeSpec)

/-- 'laws.FnRequest', WHERE WHAT IT READS IS OF BULK AT MOST 1048576: true; the input reads as it did. -/
def fnRequestUptoRow : OpenClaim := { program := "ytbogknjgjbhagaa", sum := "3485d5bcbe651d3a884bcf8fb0957f75f9fce4a908cc51d5b26782724dbab1ae", func := "netlinknl/laws.FnRequest", spec := "fnRequest", unfollowed := true, recurses := true, loops := true, apart := false, narrowed := true }
def FnRequestUptoSaid : Prop := fnRequestUptoRow.holds Try.pinned (OpenSpec.upto fnRequestSpec)

/-- 'laws.FnStructure', WHERE WHAT IT READS IS OF BULK AT MOST 1048576: true; the input reads as it did. -/
def fnStructureUptoRow : OpenClaim := { program := "ytbogknjgjbhagaa", sum := "3485d5bcbe651d3a884bcf8fb0957f75f9fce4a908cc51d5b26782724dbab1ae", func := "netlinknl/laws.FnStructure", spec := "fnStructure", unfollowed := true, recurses := true, apart := false, narrowed := true }
def FnStructureUptoSaid : Prop := fnStructureUptoRow.holds Try.pinned (OpenSpec.upto fnStructureSpec)

/-- 'laws.FnParseMap', WHERE WHAT IT READS IS OF BULK AT MOST 1048576: true; the input reads as it did. -/
def fnParseMapUptoRow : OpenClaim := { program := "ytbogknjgjbhagaa", sum := "3485d5bcbe651d3a884bcf8fb0957f75f9fce4a908cc51d5b26782724dbab1ae", func := "netlinknl/laws.FnParseMap", spec := "fnParseMap", unfollowed := true, recurses := true, apart := false, narrowed := true }
def FnParseMapUptoSaid : Prop := fnParseMapUptoRow.holds Try.pinned (OpenSpec.upto fnParseMapSpec)

end Rows
end Go.Proofs.Ytbogknjgjbhagaa
