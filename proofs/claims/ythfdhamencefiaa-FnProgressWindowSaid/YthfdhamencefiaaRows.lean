/-
  No cell of these rows narrows 'for every input' (looked for: loops, veiled, ifaces, maps, wideKeys, modest, calm, conditions, laid).
  DERIVED. THE GIVEN ROWS OF THIS SEAT. 5 by the template 'for every input the law returns true; each argument reads behind the call as it read before'; 0 by the template 'total and deterministic' (their statements: YthfdhamencefiaaTotals.lean).
  GIVEN WITH THE SEED: the statements are not yours to turn. If you find one false, say at which input.
  Laid BY PROGRAM, IN A SANDBOX (cutbox-rows.mjs): the forced cells as the released guide's own fill.sh prints them over the translation ee339c86f1b671b2… (all of the seat's roots in one cut). By AI agents, Wed Nov 11 2026. No macro, syntax, notation, axiom, sorry.
-/
import Derived.Test.YthfdhamencefiaaChecked
import GoSem.Claim
import GoSem.ClaimJoined
import GoSem.ClaimMapViews
import Derived.JoinedTies
import Derived.KernelRfl
namespace Go.Proofs.Ythfdhamencefiaa
/- THE CELL 'sum', in the pinned program and in every row, IS THE sha256 OF THE DUMP (.gsa) THAT YthfdhamencefiaaProg.lean LOADS. Nothing in Lean hashes anything: it is a label: what it is worth is what the hold of that sum in a sandbox is worth. -/
noncomputable def Try.pinned : Pinned := { name := "ythfdhamencefiaa", sum := "ee339c86f1b671b2a717329850e91d8c0f5b0d5c54d1facaa3a9e3d681039ed3", checked := Try.checked }
namespace Rows
def none {H : Type} : Left H := { results := [], args := [] }

/-- 'laws.FnExtend': WHATEVER THE INPUT: true; the input reads as it did. -/
def fnExtendSpec : ChangeSpec := { name := "fnExtend", fn := fun _ => fun
  | [d1, d2] => { results := [.lit (.bool true)], args := [d1, d2] }
  | _ => none }
def fnExtendRow : OpenClaim := { program := "ythfdhamencefiaa", sum := "ee339c86f1b671b2a717329850e91d8c0f5b0d5c54d1facaa3a9e3d681039ed3", func := "pub-comitia/laws.FnExtend", spec := "fnExtend", apart := false }
def FnExtendSaid : Prop := fnExtendRow.holds Try.pinned (OpenSpec.ofChange fnExtendSpec)

/-- ITS FALSE NEIGHBOUR: 'it returns false'. Refute it at one input. -/
def fnExtendWrong : ChangeSpec := { name := "fnExtend", fn := fun _ => fun
  | [d1, d2] => { results := [.lit (.bool false)], args := [d1, d2] }
  | _ => none }
def FnExtendWrongFalsely : Prop := fnExtendRow.holds Try.pinned (OpenSpec.ofChange fnExtendWrong)

/-- 'laws.FnFlightsFree': WHATEVER THE INPUT: true; the input reads as it did. -/
def fnFlightsFreeSpec : ChangeSpec := { name := "fnFlightsFree", fn := fun _ => fun
  | [d1, d2, d3] => { results := [.lit (.bool true)], args := [d1, d2, d3] }
  | _ => none }
def fnFlightsFreeRow : OpenClaim := { program := "ythfdhamencefiaa", sum := "ee339c86f1b671b2a717329850e91d8c0f5b0d5c54d1facaa3a9e3d681039ed3", func := "pub-comitia/laws.FnFlightsFree", spec := "fnFlightsFree", unfollowed := true, recurses := true, apart := false }
def FnFlightsFreeSaid : Prop := fnFlightsFreeRow.holds Try.pinned (OpenSpec.ofChange fnFlightsFreeSpec)

/-- ITS FALSE NEIGHBOUR: 'it returns false'. Refute it at one input. -/
def fnFlightsFreeWrong : ChangeSpec := { name := "fnFlightsFree", fn := fun _ => fun
  | [d1, d2, d3] => { results := [.lit (.bool false)], args := [d1, d2, d3] }
  | _ => none }
def FnFlightsFreeWrongFalsely : Prop := fnFlightsFreeRow.holds Try.pinned (OpenSpec.ofChange fnFlightsFreeWrong)

/-- 'laws.FnFlightsClone': WHATEVER THE INPUT: true; the input reads as it did. -/
def fnFlightsCloneSpec : ChangeSpec := { name := "fnFlightsClone", fn := fun _ => fun
  | [d1, d2, d3, d4, d5] => { results := [.lit (.bool true)], args := [d1, d2, d3, d4, d5] }
  | _ => none }
def fnFlightsCloneRow : OpenClaim := { program := "ythfdhamencefiaa", sum := "ee339c86f1b671b2a717329850e91d8c0f5b0d5c54d1facaa3a9e3d681039ed3", func := "pub-comitia/laws.FnFlightsClone", spec := "fnFlightsClone", unfollowed := true, recurses := true, apart := false }
def FnFlightsCloneSaid : Prop := fnFlightsCloneRow.holds Try.pinned (OpenSpec.ofChange fnFlightsCloneSpec)

/-- ITS FALSE NEIGHBOUR: 'it returns false'. Refute it at one input. -/
def fnFlightsCloneWrong : ChangeSpec := { name := "fnFlightsClone", fn := fun _ => fun
  | [d1, d2, d3, d4, d5] => { results := [.lit (.bool false)], args := [d1, d2, d3, d4, d5] }
  | _ => none }
def FnFlightsCloneWrongFalsely : Prop := fnFlightsCloneRow.holds Try.pinned (OpenSpec.ofChange fnFlightsCloneWrong)

/-- 'laws.FnProgressOrder': WHATEVER THE INPUT: true; the input reads as it did. -/
def fnProgressOrderSpec : ChangeSpec := { name := "fnProgressOrder", fn := fun _ => fun
  | [d1, d2] => { results := [.lit (.bool true)], args := [d1, d2] }
  | _ => none }
def fnProgressOrderRow : OpenClaim := { program := "ythfdhamencefiaa", sum := "ee339c86f1b671b2a717329850e91d8c0f5b0d5c54d1facaa3a9e3d681039ed3", func := "pub-comitia/laws.FnProgressOrder", spec := "fnProgressOrder", unfollowed := true, recurses := true, apart := false }
def FnProgressOrderSaid : Prop := fnProgressOrderRow.holds Try.pinned (OpenSpec.ofChange fnProgressOrderSpec)

/-- ITS FALSE NEIGHBOUR: 'it returns false'. Refute it at one input. -/
def fnProgressOrderWrong : ChangeSpec := { name := "fnProgressOrder", fn := fun _ => fun
  | [d1, d2] => { results := [.lit (.bool false)], args := [d1, d2] }
  | _ => none }
def FnProgressOrderWrongFalsely : Prop := fnProgressOrderRow.holds Try.pinned (OpenSpec.ofChange fnProgressOrderWrong)

/-- 'laws.FnProgressWindow': WHATEVER THE INPUT: true; the input reads as it did. -/
def fnProgressWindowSpec : ChangeSpec := { name := "fnProgressWindow", fn := fun _ => fun
  | [d1, d2, d3] => { results := [.lit (.bool true)], args := [d1, d2, d3] }
  | _ => none }
def fnProgressWindowRow : OpenClaim := { program := "ythfdhamencefiaa", sum := "ee339c86f1b671b2a717329850e91d8c0f5b0d5c54d1facaa3a9e3d681039ed3", func := "pub-comitia/laws.FnProgressWindow", spec := "fnProgressWindow", unfollowed := true, recurses := true, apart := false }
def FnProgressWindowSaid : Prop := fnProgressWindowRow.holds Try.pinned (OpenSpec.ofChange fnProgressWindowSpec)

/-- ITS FALSE NEIGHBOUR: 'it returns false'. Refute it at one input. -/
def fnProgressWindowWrong : ChangeSpec := { name := "fnProgressWindow", fn := fun _ => fun
  | [d1, d2, d3] => { results := [.lit (.bool false)], args := [d1, d2, d3] }
  | _ => none }
def FnProgressWindowWrongFalsely : Prop := fnProgressWindowRow.holds Try.pinned (OpenSpec.ofChange fnProgressWindowWrong)

/- THE SECOND FORM. 'bulk': how many values and letters a reading holds, each counted each time it is reached (what is shared counts as often as it is met; a slice's spare places count too). A statement '..UptoSaid' is the law's where the arguments, and the package variables that the reading takes, are together of bulk at most 1048576: NARROWER than '..Said'. Prove '..Said' where nothing that the law and all that it calls make is longer than what came in: it says more and counts as full. Else prove '..UptoSaid'. A law counts once. -/
mutual
def uptoBulk {H : Type} : DataW H → Nat
  | .lit (.string bytes) => bytes.length + 1
  | .lit _ => 1
  | .nil => 1
  | .ptr d => uptoBulk d + 1
  | .slice elems spare => uptoBulkAll elems + uptoBulkAll spare + 1
  | .agg parts => uptoBulkAll parts + 1
  | .iface _ d => uptoBulk d + 1
  | .map entries => uptoBulkEntries entries + 1
  | .held _ => 1
def uptoBulkAll {H : Type} : List (DataW H) → Nat
  | [] => 0
  | d :: r => uptoBulk d + uptoBulkAll r
def uptoBulkEntries {H : Type} : List (Lit × DataW H) → Nat
  | [] => 0
  | x :: r => uptoBulkEntry x + uptoBulkEntries r
def uptoBulkEntry {H : Type} : Lit × DataW H → Nat
  | (.string bytes, d) => bytes.length + uptoBulk d + 1
  | (_, d) => uptoBulk d + 1
 end
def uptoSmall : (H : Type) → List (DataW H) → Bool := fun _ ds => decide (uptoBulkAll ds ≤ 1048576)
def OpenSpec.upto (s : _root_.Go.ChangeSpec) : _root_.Go.OpenSpec := { _root_.Go.OpenSpec.ofChange s with cond := some uptoSmall }

/-- 'laws.FnExtend', WHERE WHAT IT READS IS OF BULK AT MOST 1048576: true; the input reads as it did. -/
def fnExtendUptoRow : OpenClaim := { program := "ythfdhamencefiaa", sum := "ee339c86f1b671b2a717329850e91d8c0f5b0d5c54d1facaa3a9e3d681039ed3", func := "pub-comitia/laws.FnExtend", spec := "fnExtend", apart := false, narrowed := true }
def FnExtendUptoSaid : Prop := fnExtendUptoRow.holds Try.pinned (OpenSpec.upto fnExtendSpec)

/-- 'laws.FnFlightsFree', WHERE WHAT IT READS IS OF BULK AT MOST 1048576: true; the input reads as it did. -/
def fnFlightsFreeUptoRow : OpenClaim := { program := "ythfdhamencefiaa", sum := "ee339c86f1b671b2a717329850e91d8c0f5b0d5c54d1facaa3a9e3d681039ed3", func := "pub-comitia/laws.FnFlightsFree", spec := "fnFlightsFree", unfollowed := true, recurses := true, apart := false, narrowed := true }
def FnFlightsFreeUptoSaid : Prop := fnFlightsFreeUptoRow.holds Try.pinned (OpenSpec.upto fnFlightsFreeSpec)

/-- 'laws.FnFlightsClone', WHERE WHAT IT READS IS OF BULK AT MOST 1048576: true; the input reads as it did. -/
def fnFlightsCloneUptoRow : OpenClaim := { program := "ythfdhamencefiaa", sum := "ee339c86f1b671b2a717329850e91d8c0f5b0d5c54d1facaa3a9e3d681039ed3", func := "pub-comitia/laws.FnFlightsClone", spec := "fnFlightsClone", unfollowed := true, recurses := true, apart := false, narrowed := true }
def FnFlightsCloneUptoSaid : Prop := fnFlightsCloneUptoRow.holds Try.pinned (OpenSpec.upto fnFlightsCloneSpec)

/-- 'laws.FnProgressOrder', WHERE WHAT IT READS IS OF BULK AT MOST 1048576: true; the input reads as it did. -/
def fnProgressOrderUptoRow : OpenClaim := { program := "ythfdhamencefiaa", sum := "ee339c86f1b671b2a717329850e91d8c0f5b0d5c54d1facaa3a9e3d681039ed3", func := "pub-comitia/laws.FnProgressOrder", spec := "fnProgressOrder", unfollowed := true, recurses := true, apart := false, narrowed := true }
def FnProgressOrderUptoSaid : Prop := fnProgressOrderUptoRow.holds Try.pinned (OpenSpec.upto fnProgressOrderSpec)

/-- 'laws.FnProgressWindow', WHERE WHAT IT READS IS OF BULK AT MOST 1048576: true; the input reads as it did. -/
def fnProgressWindowUptoRow : OpenClaim := { program := "ythfdhamencefiaa", sum := "ee339c86f1b671b2a717329850e91d8c0f5b0d5c54d1facaa3a9e3d681039ed3", func := "pub-comitia/laws.FnProgressWindow", spec := "fnProgressWindow", unfollowed := true, recurses := true, apart := false, narrowed := true }
def FnProgressWindowUptoSaid : Prop := fnProgressWindowUptoRow.holds Try.pinned (OpenSpec.upto fnProgressWindowSpec)

end Rows
end Go.Proofs.Ythfdhamencefiaa
