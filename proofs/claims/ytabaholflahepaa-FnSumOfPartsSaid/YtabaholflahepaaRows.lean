/-
  No cell of these rows narrows 'for every input' (looked for: loops, veiled, ifaces, maps, wideKeys, modest, calm, conditions, laid).
  DERIVED. THE GIVEN ROWS OF THIS SEAT. 4 by the template 'for every input the law returns true; each argument reads behind the call as it read before'; 0 by the template 'total and deterministic' (their statements: YtabaholflahepaaTotals.lean).
  GIVEN WITH THE SEED: the statements are not yours to turn. If you find one false, say at which input.
  Laid BY PROGRAM, IN A SANDBOX (cutbox-rows.mjs): the forced cells as the released guide's own fill.sh prints them over the translation ce64bac0c061c960… (all of the seat's roots in one cut). By AI agents, Wed Nov 11 2026. No macro, syntax, notation, axiom, sorry.
-/
import Derived.Test.YtabaholflahepaaChecked
import GoSem.Claim
import GoSem.ClaimJoined
import GoSem.ClaimMapViews
import Derived.JoinedTies
import Derived.KernelRfl
namespace Go.Proofs.Ytabaholflahepaa
/- THE CELL 'sum', in the pinned program and in every row, IS THE sha256 OF THE DUMP (.gsa) THAT YtabaholflahepaaProg.lean LOADS. Nothing in Lean hashes anything: it is a label: what it is worth is what the hold of that sum in a sandbox is worth. -/
noncomputable def Try.pinned : Pinned := { name := "ytabaholflahepaa", sum := "ce64bac0c061c960d74dbaca524624c0b46eb2913b4a321cdcba42731347419b", checked := Try.checked }
namespace Rows
def none {H : Type} : Left H := { results := [], args := [] }

/-- 'laws.FnWindow': WHATEVER THE INPUT: true; the input reads as it did. -/
def fnWindowSpec : ChangeSpec := { name := "fnWindow", fn := fun _ => fun
  | [d1, d2, d3, d4] => { results := [.lit (.bool true)], args := [d1, d2, d3, d4] }
  | _ => none }
def fnWindowRow : OpenClaim := { program := "ytabaholflahepaa", sum := "ce64bac0c061c960d74dbaca524624c0b46eb2913b4a321cdcba42731347419b", func := "framesunpacked/laws.FnWindow", spec := "fnWindow", apart := false }
def FnWindowSaid : Prop := fnWindowRow.holds Try.pinned (OpenSpec.ofChange fnWindowSpec)

/-- ITS FALSE NEIGHBOUR: 'it returns false'. Refute it at one input. -/
def fnWindowWrong : ChangeSpec := { name := "fnWindow", fn := fun _ => fun
  | [d1, d2, d3, d4] => { results := [.lit (.bool false)], args := [d1, d2, d3, d4] }
  | _ => none }
def FnWindowWrongFalsely : Prop := fnWindowRow.holds Try.pinned (OpenSpec.ofChange fnWindowWrong)

/-- 'laws.FnUsual': WHATEVER THE INPUT: true; the input reads as it did. -/
def fnUsualSpec : ChangeSpec := { name := "fnUsual", fn := fun _ => fun
  | [d] => { results := [.lit (.bool true)], args := [d] }
  | _ => none }
def fnUsualRow : OpenClaim := { program := "ytabaholflahepaa", sum := "ce64bac0c061c960d74dbaca524624c0b46eb2913b4a321cdcba42731347419b", func := "framesunpacked/laws.FnUsual", spec := "fnUsual", apart := false }
def FnUsualSaid : Prop := fnUsualRow.holds Try.pinned (OpenSpec.ofChange fnUsualSpec)

/-- ITS FALSE NEIGHBOUR: 'it returns false'. Refute it at one input. -/
def fnUsualWrong : ChangeSpec := { name := "fnUsual", fn := fun _ => fun
  | [d] => { results := [.lit (.bool false)], args := [d] }
  | _ => none }
def FnUsualWrongFalsely : Prop := fnUsualRow.holds Try.pinned (OpenSpec.ofChange fnUsualWrong)

/-- 'laws.FnSum': WHATEVER THE INPUT: true; the input reads as it did. -/
def fnSumSpec : ChangeSpec := { name := "fnSum", fn := fun _ => fun
  | [d1, d2] => { results := [.lit (.bool true)], args := [d1, d2] }
  | _ => none }
def fnSumRow : OpenClaim := { program := "ytabaholflahepaa", sum := "ce64bac0c061c960d74dbaca524624c0b46eb2913b4a321cdcba42731347419b", func := "framesunpacked/laws.FnSum", spec := "fnSum", apart := false }
def FnSumSaid : Prop := fnSumRow.holds Try.pinned (OpenSpec.ofChange fnSumSpec)

/-- ITS FALSE NEIGHBOUR: 'it returns false'. Refute it at one input. -/
def fnSumWrong : ChangeSpec := { name := "fnSum", fn := fun _ => fun
  | [d1, d2] => { results := [.lit (.bool false)], args := [d1, d2] }
  | _ => none }
def FnSumWrongFalsely : Prop := fnSumRow.holds Try.pinned (OpenSpec.ofChange fnSumWrong)

/-- 'laws.FnSumOfParts': WHATEVER THE INPUT: true; the input reads as it did. -/
def fnSumOfPartsSpec : ChangeSpec := { name := "fnSumOfParts", fn := fun _ => fun
  | [d1, d2, d3] => { results := [.lit (.bool true)], args := [d1, d2, d3] }
  | _ => none }
def fnSumOfPartsRow : OpenClaim := { program := "ytabaholflahepaa", sum := "ce64bac0c061c960d74dbaca524624c0b46eb2913b4a321cdcba42731347419b", func := "framesunpacked/laws.FnSumOfParts", spec := "fnSumOfParts", apart := false }
def FnSumOfPartsSaid : Prop := fnSumOfPartsRow.holds Try.pinned (OpenSpec.ofChange fnSumOfPartsSpec)

/-- ITS FALSE NEIGHBOUR: 'it returns false'. Refute it at one input. -/
def fnSumOfPartsWrong : ChangeSpec := { name := "fnSumOfParts", fn := fun _ => fun
  | [d1, d2, d3] => { results := [.lit (.bool false)], args := [d1, d2, d3] }
  | _ => none }
def FnSumOfPartsWrongFalsely : Prop := fnSumOfPartsRow.holds Try.pinned (OpenSpec.ofChange fnSumOfPartsWrong)

/- THE SECOND FORM. 'bulk': how many values and letters a reading holds, each counted each time it is reached (what is shared counts as often as it is met; a slice's spare places count too). A statement '..UptoSaid' is the law's where the arguments, and the package variables that the reading takes, are together of bulk at most 1048576: NARROWER than '..Said'. Prove '..Said' where nothing that the law and all that it calls make is longer than what came in: it says more and counts as full. Else prove '..UptoSaid'. A law counts once. -/
mutual
def uptoBulk {H : Type} : DataW H → Nat
  | .lit (.string bytes) => bytes.length + 1
  | .lit _ => 1
  | .nil => 1
  | .ptr d => uptoBulk d + 1
  | .slice elems spare => uptoBulkAll elems + uptoBulkAll spare + 1
  | .agg parts => uptoBulkAll parts + 1
  | .iface _ d => uptoBulk d + 1
  | .map entries => uptoBulkEntries entries + 1
  | .held _ => 1
def uptoBulkAll {H : Type} : List (DataW H) → Nat
  | [] => 0
  | d :: r => uptoBulk d + uptoBulkAll r
def uptoBulkEntries {H : Type} : List (Lit × DataW H) → Nat
  | [] => 0
  | x :: r => uptoBulkEntry x + uptoBulkEntries r
def uptoBulkEntry {H : Type} : Lit × DataW H → Nat
  | (.string bytes, d) => bytes.length + uptoBulk d + 1
  | (_, d) => uptoBulk d + 1
 end
def uptoSmall : (H : Type) → List (DataW H) → Bool := fun _ ds => decide (uptoBulkAll ds ≤ 1048576)
def OpenSpec.upto (s : _root_.Go.ChangeSpec) : _root_.Go.OpenSpec := { _root_.Go.OpenSpec.ofChange s with cond := some uptoSmall }

/-- 'laws.FnWindow', WHERE WHAT IT READS IS OF BULK AT MOST 1048576: true; the input reads as it did. -/
def fnWindowUptoRow : OpenClaim := { program := "ytabaholflahepaa", sum := "ce64bac0c061c960d74dbaca524624c0b46eb2913b4a321cdcba42731347419b", func := "framesunpacked/laws.FnWindow", spec := "fnWindow", apart := false, narrowed := true }
def FnWindowUptoSaid : Prop := fnWindowUptoRow.holds Try.pinned (OpenSpec.upto fnWindowSpec)

/-- 'laws.FnUsual', WHERE WHAT IT READS IS OF BULK AT MOST 1048576: true; the input reads as it did. -/
def fnUsualUptoRow : OpenClaim := { program := "ytabaholflahepaa", sum := "ce64bac0c061c960d74dbaca524624c0b46eb2913b4a321cdcba42731347419b", func := "framesunpacked/laws.FnUsual", spec := "fnUsual", apart := false, narrowed := true }
def FnUsualUptoSaid : Prop := fnUsualUptoRow.holds Try.pinned (OpenSpec.upto fnUsualSpec)

/-- 'laws.FnSum', WHERE WHAT IT READS IS OF BULK AT MOST 1048576: true; the input reads as it did. -/
def fnSumUptoRow : OpenClaim := { program := "ytabaholflahepaa", sum := "ce64bac0c061c960d74dbaca524624c0b46eb2913b4a321cdcba42731347419b", func := "framesunpacked/laws.FnSum", spec := "fnSum", apart := false, narrowed := true }
def FnSumUptoSaid : Prop := fnSumUptoRow.holds Try.pinned (OpenSpec.upto fnSumSpec)

/-- 'laws.FnSumOfParts', WHERE WHAT IT READS IS OF BULK AT MOST 1048576: true; the input reads as it did. -/
def fnSumOfPartsUptoRow : OpenClaim := { program := "ytabaholflahepaa", sum := "ce64bac0c061c960d74dbaca524624c0b46eb2913b4a321cdcba42731347419b", func := "framesunpacked/laws.FnSumOfParts", spec := "fnSumOfParts", apart := false, narrowed := true }
def FnSumOfPartsUptoSaid : Prop := fnSumOfPartsUptoRow.holds Try.pinned (OpenSpec.upto fnSumOfPartsSpec)

end Rows
end Go.Proofs.Ytabaholflahepaa
