/-
  No cell of these rows narrows 'for every input' (looked for: loops, veiled, ifaces, maps, wideKeys, modest, calm, conditions, laid).
  DERIVED. THE GIVEN ROWS OF THIS SEAT. 6 by the template 'for every input the law returns true; each argument reads behind the call as it read before'; 0 by the template 'total and deterministic' (their statements: YtoigokgechcaiaaTotals.lean).
  GIVEN WITH THE SEED: the statements are not yours to turn. If you find one false, say at which input.
  Laid BY PROGRAM, IN A SANDBOX (cutbox-rows.mjs): the forced cells as the released guide's own fill.sh prints them over the translation a0f738c0c581d75c… (all of the seat's roots in one cut). By AI agents, Wed Nov 11 2026. No macro, syntax, notation, axiom, sorry.
-/
import Derived.Test.YtoigokgechcaiaaChecked
import GoSem.Claim
import GoSem.ClaimJoined
import GoSem.ClaimMapViews
import Derived.JoinedTies
import Derived.KernelRfl
namespace Go.Proofs.Ytoigokgechcaiaa
/- THE CELL 'sum', in the pinned program and in every row, IS THE sha256 OF THE DUMP (.gsa) THAT YtoigokgechcaiaaProg.lean LOADS. Nothing in Lean hashes anything: it is a label: what it is worth is what the hold of that sum in a sandbox is worth. -/
noncomputable def Try.pinned : Pinned := { name := "ytoigokgechcaiaa", sum := "a0f738c0c581d75c6472501616bd5501ee732819fb8a7d5707df56a5e9162248", checked := Try.checked }
namespace Rows
def none {H : Type} : Left H := { results := [], args := [] }

/-- 'laws.FnContinues': WHATEVER THE INPUT: true; the input reads as it did. -/
def fnContinuesSpec : ChangeSpec := { name := "fnContinues", fn := fun _ => fun
  | [d] => { results := [.lit (.bool true)], args := [d] }
  | _ => none }
def fnContinuesRow : OpenClaim := { program := "ytoigokgechcaiaa", sum := "a0f738c0c581d75c6472501616bd5501ee732819fb8a7d5707df56a5e9162248", func := "loop.example/pub-g01526/laws.FnContinues", spec := "fnContinues", apart := false }
def FnContinuesSaid : Prop := fnContinuesRow.holds Try.pinned (OpenSpec.ofChange fnContinuesSpec)

/-- ITS FALSE NEIGHBOUR: 'it returns false'. Refute it at one input. -/
def fnContinuesWrong : ChangeSpec := { name := "fnContinues", fn := fun _ => fun
  | [d] => { results := [.lit (.bool false)], args := [d] }
  | _ => none }
def FnContinuesWrongFalsely : Prop := fnContinuesRow.holds Try.pinned (OpenSpec.ofChange fnContinuesWrong)

/-- 'laws.FnGather': WHATEVER THE INPUT: true; the input reads as it did. -/
def fnGatherSpec : ChangeSpec := { name := "fnGather", fn := fun _ => fun
  | [d] => { results := [.lit (.bool true)], args := [d] }
  | _ => none }
def fnGatherRow : OpenClaim := { program := "ytoigokgechcaiaa", sum := "a0f738c0c581d75c6472501616bd5501ee732819fb8a7d5707df56a5e9162248", func := "loop.example/pub-g01526/laws.FnGather", spec := "fnGather", apart := false }
def FnGatherSaid : Prop := fnGatherRow.holds Try.pinned (OpenSpec.ofChange fnGatherSpec)

/-- ITS FALSE NEIGHBOUR: 'it returns false'. Refute it at one input. -/
def fnGatherWrong : ChangeSpec := { name := "fnGather", fn := fun _ => fun
  | [d] => { results := [.lit (.bool false)], args := [d] }
  | _ => none }
def FnGatherWrongFalsely : Prop := fnGatherRow.holds Try.pinned (OpenSpec.ofChange fnGatherWrong)

/-- 'laws.FnNonDigits': WHATEVER THE INPUT: true; the input reads as it did. -/
def fnNonDigitsSpec : ChangeSpec := { name := "fnNonDigits", fn := fun _ => fun
  | [d] => { results := [.lit (.bool true)], args := [d] }
  | _ => none }
def fnNonDigitsRow : OpenClaim := { program := "ytoigokgechcaiaa", sum := "a0f738c0c581d75c6472501616bd5501ee732819fb8a7d5707df56a5e9162248", func := "loop.example/pub-g01526/laws.FnNonDigits", spec := "fnNonDigits", apart := false }
def FnNonDigitsSaid : Prop := fnNonDigitsRow.holds Try.pinned (OpenSpec.ofChange fnNonDigitsSpec)

/-- ITS FALSE NEIGHBOUR: 'it returns false'. Refute it at one input. -/
def fnNonDigitsWrong : ChangeSpec := { name := "fnNonDigits", fn := fun _ => fun
  | [d] => { results := [.lit (.bool false)], args := [d] }
  | _ => none }
def FnNonDigitsWrongFalsely : Prop := fnNonDigitsRow.holds Try.pinned (OpenSpec.ofChange fnNonDigitsWrong)

/-- 'laws.FnTwentyDigits': WHATEVER THE INPUT: true; the input reads as it did. -/
def fnTwentyDigitsSpec : ChangeSpec := { name := "fnTwentyDigits", fn := fun _ => fun
  | [d1, d2] => { results := [.lit (.bool true)], args := [d1, d2] }
  | _ => none }
def fnTwentyDigitsRow : OpenClaim := { program := "ytoigokgechcaiaa", sum := "a0f738c0c581d75c6472501616bd5501ee732819fb8a7d5707df56a5e9162248", func := "loop.example/pub-g01526/laws.FnTwentyDigits", spec := "fnTwentyDigits", apart := false }
def FnTwentyDigitsSaid : Prop := fnTwentyDigitsRow.holds Try.pinned (OpenSpec.ofChange fnTwentyDigitsSpec)

/-- ITS FALSE NEIGHBOUR: 'it returns false'. Refute it at one input. -/
def fnTwentyDigitsWrong : ChangeSpec := { name := "fnTwentyDigits", fn := fun _ => fun
  | [d1, d2] => { results := [.lit (.bool false)], args := [d1, d2] }
  | _ => none }
def FnTwentyDigitsWrongFalsely : Prop := fnTwentyDigitsRow.holds Try.pinned (OpenSpec.ofChange fnTwentyDigitsWrong)

/-- 'laws.FnDigits': WHATEVER THE INPUT: true; the input reads as it did. -/
def fnDigitsSpec : ChangeSpec := { name := "fnDigits", fn := fun _ => fun
  | [d1, d2] => { results := [.lit (.bool true)], args := [d1, d2] }
  | _ => none }
def fnDigitsRow : OpenClaim := { program := "ytoigokgechcaiaa", sum := "a0f738c0c581d75c6472501616bd5501ee732819fb8a7d5707df56a5e9162248", func := "loop.example/pub-g01526/laws.FnDigits", spec := "fnDigits", apart := false }
def FnDigitsSaid : Prop := fnDigitsRow.holds Try.pinned (OpenSpec.ofChange fnDigitsSpec)

/-- ITS FALSE NEIGHBOUR: 'it returns false'. Refute it at one input. -/
def fnDigitsWrong : ChangeSpec := { name := "fnDigits", fn := fun _ => fun
  | [d1, d2] => { results := [.lit (.bool false)], args := [d1, d2] }
  | _ => none }
def FnDigitsWrongFalsely : Prop := fnDigitsRow.holds Try.pinned (OpenSpec.ofChange fnDigitsWrong)

/-- 'laws.FnUint': WHATEVER THE INPUT: true; the input reads as it did. -/
def fnUintSpec : ChangeSpec := { name := "fnUint", fn := fun _ => fun
  | [d] => { results := [.lit (.bool true)], args := [d] }
  | _ => none }
def fnUintRow : OpenClaim := { program := "ytoigokgechcaiaa", sum := "a0f738c0c581d75c6472501616bd5501ee732819fb8a7d5707df56a5e9162248", func := "loop.example/pub-g01526/laws.FnUint", spec := "fnUint", apart := false }
def FnUintSaid : Prop := fnUintRow.holds Try.pinned (OpenSpec.ofChange fnUintSpec)

/-- ITS FALSE NEIGHBOUR: 'it returns false'. Refute it at one input. -/
def fnUintWrong : ChangeSpec := { name := "fnUint", fn := fun _ => fun
  | [d] => { results := [.lit (.bool false)], args := [d] }
  | _ => none }
def FnUintWrongFalsely : Prop := fnUintRow.holds Try.pinned (OpenSpec.ofChange fnUintWrong)

/- THE SECOND FORM. 'bulk': how many values and letters a reading holds, each counted each time it is reached (what is shared counts as often as it is met; a slice's spare places count too). A statement '..UptoSaid' is the law's where the arguments, and the package variables that the reading takes, are together of bulk at most 1048576: NARROWER than '..Said'. Prove '..Said' where nothing that the law and all that it calls make is longer than what came in: it says more and counts as full. Else prove '..UptoSaid'. A law counts once. -/
mutual
def uptoBulk {H : Type} : DataW H → Nat
  | .lit (.string bytes) => bytes.length + 1
  | .lit _ => 1
  | .nil => 1
  | .ptr d => uptoBulk d + 1
  | .slice elems spare => uptoBulkAll elems + uptoBulkAll spare + 1
  | .agg parts => uptoBulkAll parts + 1
  | .iface _ d => uptoBulk d + 1
  | .map entries => uptoBulkEntries entries + 1
  | .held _ => 1
def uptoBulkAll {H : Type} : List (DataW H) → Nat
  | [] => 0
  | d :: r => uptoBulk d + uptoBulkAll r
def uptoBulkEntries {H : Type} : List (Lit × DataW H) → Nat
  | [] => 0
  | x :: r => uptoBulkEntry x + uptoBulkEntries r
def uptoBulkEntry {H : Type} : Lit × DataW H → Nat
  | (.string bytes, d) => bytes.length + uptoBulk d + 1
  | (_, d) => uptoBulk d + 1
 end
def uptoSmall : (H : Type) → List (DataW H) → Bool := fun _ ds => decide (uptoBulkAll ds ≤ 1048576)
def OpenSpec.upto (s : _root_.Go.ChangeSpec) : _root_.Go.OpenSpec := { _root_.Go.OpenSpec.ofChange s with cond := some uptoSmall }

/-- 'laws.FnContinues', WHERE WHAT IT READS IS OF BULK AT MOST 1048576: true; the input reads as it did. -/
def fnContinuesUptoRow : OpenClaim := { program := "ytoigokgechcaiaa", sum := "a0f738c0c581d75c6472501616bd5501ee732819fb8a7d5707df56a5e9162248", func := "loop.example/pub-g01526/laws.FnContinues", spec := "fnContinues", apart := false, narrowed := true }
def FnContinuesUptoSaid : Prop := fnContinuesUptoRow.holds Try.pinned (OpenSpec.upto fnContinuesSpec)

/-- 'laws.FnGather', WHERE WHAT IT READS IS OF BULK AT MOST 1048576: true; the input reads as it did. -/
def fnGatherUptoRow : OpenClaim := { program := "ytoigokgechcaiaa", sum := "a0f738c0c581d75c6472501616bd5501ee732819fb8a7d5707df56a5e9162248", func := "loop.example/pub-g01526/laws.FnGather", spec := "fnGather", apart := false, narrowed := true }
def FnGatherUptoSaid : Prop := fnGatherUptoRow.holds Try.pinned (OpenSpec.upto fnGatherSpec)

/-- 'laws.FnNonDigits', WHERE WHAT IT READS IS OF BULK AT MOST 1048576: true; the input reads as it did. -/
def fnNonDigitsUptoRow : OpenClaim := { program := "ytoigokgechcaiaa", sum := "a0f738c0c581d75c6472501616bd5501ee732819fb8a7d5707df56a5e9162248", func := "loop.example/pub-g01526/laws.FnNonDigits", spec := "fnNonDigits", apart := false, narrowed := true }
def FnNonDigitsUptoSaid : Prop := fnNonDigitsUptoRow.holds Try.pinned (OpenSpec.upto fnNonDigitsSpec)

/-- 'laws.FnTwentyDigits', WHERE WHAT IT READS IS OF BULK AT MOST 1048576: true; the input reads as it did. -/
def fnTwentyDigitsUptoRow : OpenClaim := { program := "ytoigokgechcaiaa", sum := "a0f738c0c581d75c6472501616bd5501ee732819fb8a7d5707df56a5e9162248", func := "loop.example/pub-g01526/laws.FnTwentyDigits", spec := "fnTwentyDigits", apart := false, narrowed := true }
def FnTwentyDigitsUptoSaid : Prop := fnTwentyDigitsUptoRow.holds Try.pinned (OpenSpec.upto fnTwentyDigitsSpec)

/-- 'laws.FnDigits', WHERE WHAT IT READS IS OF BULK AT MOST 1048576: true; the input reads as it did. -/
def fnDigitsUptoRow : OpenClaim := { program := "ytoigokgechcaiaa", sum := "a0f738c0c581d75c6472501616bd5501ee732819fb8a7d5707df56a5e9162248", func := "loop.example/pub-g01526/laws.FnDigits", spec := "fnDigits", apart := false, narrowed := true }
def FnDigitsUptoSaid : Prop := fnDigitsUptoRow.holds Try.pinned (OpenSpec.upto fnDigitsSpec)

/-- 'laws.FnUint', WHERE WHAT IT READS IS OF BULK AT MOST 1048576: true; the input reads as it did. -/
def fnUintUptoRow : OpenClaim := { program := "ytoigokgechcaiaa", sum := "a0f738c0c581d75c6472501616bd5501ee732819fb8a7d5707df56a5e9162248", func := "loop.example/pub-g01526/laws.FnUint", spec := "fnUint", apart := false, narrowed := true }
def FnUintUptoSaid : Prop := fnUintUptoRow.holds Try.pinned (OpenSpec.upto fnUintSpec)

end Rows
end Go.Proofs.Ytoigokgechcaiaa
