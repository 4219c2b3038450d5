/-
  No cell of these rows narrows 'for every input' (looked for: loops, veiled, ifaces, maps, wideKeys, modest, calm, conditions, laid).
  DERIVED. THE GIVEN ROWS OF THIS SEAT. 6 by the template 'for every input the law returns true; each argument reads behind the call as it read before'; 0 by the template 'total and deterministic' (their statements: YtieklcdpnehpnaaTotals.lean).
  GIVEN WITH THE SEED: the statements are not yours to turn. If you find one false, say at which input.
  Laid BY PROGRAM, IN A SANDBOX (cutbox-rows.mjs): the forced cells as the released guide's own fill.sh prints them over the translation c24120ff34b6943c… (all of the seat's roots in one cut). By AI agents, Wed Nov 11 2026. No macro, syntax, notation, axiom, sorry.
-/
import Derived.Test.YtieklcdpnehpnaaChecked
import GoSem.Claim
import GoSem.ClaimJoined
import GoSem.ClaimMapViews
import Derived.JoinedTies
import Derived.KernelRfl
namespace Go.Proofs.Ytieklcdpnehpnaa
/- THE CELL 'sum', in the pinned program and in every row, IS THE sha256 OF THE DUMP (.gsa) THAT YtieklcdpnehpnaaProg.lean LOADS. Nothing in Lean hashes anything: it is a label: what it is worth is what the hold of that sum in a sandbox is worth. -/
noncomputable def Try.pinned : Pinned := { name := "ytieklcdpnehpnaa", sum := "c24120ff34b6943cd3e96b4ea74ca3f93439f549e36b209b20a51d55be4e7a07", checked := Try.checked }
namespace Rows
def none {H : Type} : Left H := { results := [], args := [] }

/-- 'laws.FnResponse': WHATEVER THE INPUT: true; the input reads as it did. -/
def fnResponseSpec : ChangeSpec := { name := "fnResponse", fn := fun _ => fun
  | [d] => { results := [.lit (.bool true)], args := [d] }
  | _ => none }
def fnResponseRow : OpenClaim := { program := "ytieklcdpnehpnaa", sum := "c24120ff34b6943cd3e96b4ea74ca3f93439f549e36b209b20a51d55be4e7a07", func := "pub-comitia/laws.FnResponse", spec := "fnResponse", apart := false }
def FnResponseSaid : Prop := fnResponseRow.holds Try.pinned (OpenSpec.ofChange fnResponseSpec)

/-- ITS FALSE NEIGHBOUR: 'it returns false'. Refute it at one input. -/
def fnResponseWrong : ChangeSpec := { name := "fnResponse", fn := fun _ => fun
  | [d] => { results := [.lit (.bool false)], args := [d] }
  | _ => none }
def FnResponseWrongFalsely : Prop := fnResponseRow.holds Try.pinned (OpenSpec.ofChange fnResponseWrong)

/-- 'laws.FnHard': WHATEVER THE INPUT: true; the input reads as it did. -/
def fnHardSpec : ChangeSpec := { name := "fnHard", fn := fun _ => fun
  | [d1, d2] => { results := [.lit (.bool true)], args := [d1, d2] }
  | _ => none }
def fnHardRow : OpenClaim := { program := "ytieklcdpnehpnaa", sum := "c24120ff34b6943cd3e96b4ea74ca3f93439f549e36b209b20a51d55be4e7a07", func := "pub-comitia/laws.FnHard", spec := "fnHard", apart := false }
def FnHardSaid : Prop := fnHardRow.holds Try.pinned (OpenSpec.ofChange fnHardSpec)

/-- ITS FALSE NEIGHBOUR: 'it returns false'. Refute it at one input. -/
def fnHardWrong : ChangeSpec := { name := "fnHard", fn := fun _ => fun
  | [d1, d2] => { results := [.lit (.bool false)], args := [d1, d2] }
  | _ => none }
def FnHardWrongFalsely : Prop := fnHardRow.holds Try.pinned (OpenSpec.ofChange fnHardWrong)

/-- 'laws.FnSliceLast': WHATEVER THE INPUT: true; the input reads as it did. -/
def fnSliceLastSpec : ChangeSpec := { name := "fnSliceLast", fn := fun _ => fun
  | [d1, d2] => { results := [.lit (.bool true)], args := [d1, d2] }
  | _ => none }
def fnSliceLastRow : OpenClaim := { program := "ytieklcdpnehpnaa", sum := "c24120ff34b6943cd3e96b4ea74ca3f93439f549e36b209b20a51d55be4e7a07", func := "pub-comitia/laws.FnSliceLast", spec := "fnSliceLast", apart := false }
def FnSliceLastSaid : Prop := fnSliceLastRow.holds Try.pinned (OpenSpec.ofChange fnSliceLastSpec)

/-- ITS FALSE NEIGHBOUR: 'it returns false'. Refute it at one input. -/
def fnSliceLastWrong : ChangeSpec := { name := "fnSliceLast", fn := fun _ => fun
  | [d1, d2] => { results := [.lit (.bool false)], args := [d1, d2] }
  | _ => none }
def FnSliceLastWrongFalsely : Prop := fnSliceLastRow.holds Try.pinned (OpenSpec.ofChange fnSliceLastWrong)

/-- 'laws.FnEntsSize': WHATEVER THE INPUT: true; the input reads as it did. -/
def fnEntsSizeSpec : ChangeSpec := { name := "fnEntsSize", fn := fun _ => fun
  | [d] => { results := [.lit (.bool true)], args := [d] }
  | _ => none }
def fnEntsSizeRow : OpenClaim := { program := "ytieklcdpnehpnaa", sum := "c24120ff34b6943cd3e96b4ea74ca3f93439f549e36b209b20a51d55be4e7a07", func := "pub-comitia/laws.FnEntsSize", spec := "fnEntsSize", apart := false }
def FnEntsSizeSaid : Prop := fnEntsSizeRow.holds Try.pinned (OpenSpec.ofChange fnEntsSizeSpec)

/-- ITS FALSE NEIGHBOUR: 'it returns false'. Refute it at one input. -/
def fnEntsSizeWrong : ChangeSpec := { name := "fnEntsSize", fn := fun _ => fun
  | [d] => { results := [.lit (.bool false)], args := [d] }
  | _ => none }
def FnEntsSizeWrongFalsely : Prop := fnEntsSizeRow.holds Try.pinned (OpenSpec.ofChange fnEntsSizeWrong)

/-- 'laws.FnLeaves': WHATEVER THE INPUT: true; the input reads as it did. -/
def fnLeavesSpec : ChangeSpec := { name := "fnLeaves", fn := fun _ => fun
  | [d] => { results := [.lit (.bool true)], args := [d] }
  | _ => none }
def fnLeavesRow : OpenClaim := { program := "ytieklcdpnehpnaa", sum := "c24120ff34b6943cd3e96b4ea74ca3f93439f549e36b209b20a51d55be4e7a07", func := "pub-comitia/laws.FnLeaves", spec := "fnLeaves", apart := false }
def FnLeavesSaid : Prop := fnLeavesRow.holds Try.pinned (OpenSpec.ofChange fnLeavesSpec)

/-- ITS FALSE NEIGHBOUR: 'it returns false'. Refute it at one input. -/
def fnLeavesWrong : ChangeSpec := { name := "fnLeaves", fn := fun _ => fun
  | [d] => { results := [.lit (.bool false)], args := [d] }
  | _ => none }
def FnLeavesWrongFalsely : Prop := fnLeavesRow.holds Try.pinned (OpenSpec.ofChange fnLeavesWrong)

/-- 'laws.FnVoteAnswer': WHATEVER THE INPUT: true; the input reads as it did. -/
def fnVoteAnswerSpec : ChangeSpec := { name := "fnVoteAnswer", fn := fun _ => fun
  | [d] => { results := [.lit (.bool true)], args := [d] }
  | _ => none }
def fnVoteAnswerRow : OpenClaim := { program := "ytieklcdpnehpnaa", sum := "c24120ff34b6943cd3e96b4ea74ca3f93439f549e36b209b20a51d55be4e7a07", func := "pub-comitia/laws.FnVoteAnswer", spec := "fnVoteAnswer", unfollowed := true, recurses := true, apart := false }
def FnVoteAnswerSaid : Prop := fnVoteAnswerRow.holds Try.pinned (OpenSpec.ofChange fnVoteAnswerSpec)

/-- ITS FALSE NEIGHBOUR: 'it returns false'. Refute it at one input. -/
def fnVoteAnswerWrong : ChangeSpec := { name := "fnVoteAnswer", fn := fun _ => fun
  | [d] => { results := [.lit (.bool false)], args := [d] }
  | _ => none }
def FnVoteAnswerWrongFalsely : Prop := fnVoteAnswerRow.holds Try.pinned (OpenSpec.ofChange fnVoteAnswerWrong)

/- THE SECOND FORM. 'bulk': how many values and letters a reading holds, each counted each time it is reached (what is shared counts as often as it is met; a slice's spare places count too). A statement '..UptoSaid' is the law's where the arguments, and the package variables that the reading takes, are together of bulk at most 1048576: NARROWER than '..Said'. Prove '..Said' where nothing that the law and all that it calls make is longer than what came in: it says more and counts as full. Else prove '..UptoSaid'. A law counts once. -/
mutual
def uptoBulk {H : Type} : DataW H → Nat
  | .lit (.string bytes) => bytes.length + 1
  | .lit _ => 1
  | .nil => 1
  | .ptr d => uptoBulk d + 1
  | .slice elems spare => uptoBulkAll elems + uptoBulkAll spare + 1
  | .agg parts => uptoBulkAll parts + 1
  | .iface _ d => uptoBulk d + 1
  | .map entries => uptoBulkEntries entries + 1
  | .held _ => 1
def uptoBulkAll {H : Type} : List (DataW H) → Nat
  | [] => 0
  | d :: r => uptoBulk d + uptoBulkAll r
def uptoBulkEntries {H : Type} : List (Lit × DataW H) → Nat
  | [] => 0
  | x :: r => uptoBulkEntry x + uptoBulkEntries r
def uptoBulkEntry {H : Type} : Lit × DataW H → Nat
  | (.string bytes, d) => bytes.length + uptoBulk d + 1
  | (_, d) => uptoBulk d + 1
 end
def uptoSmall : (H : Type) → List (DataW H) → Bool := fun _ ds => decide (uptoBulkAll ds ≤ 1048576)
def OpenSpec.upto (s : _root_.Go.ChangeSpec) : _root_.Go.OpenSpec := { _root_.Go.OpenSpec.ofChange s with cond := some uptoSmall }

/-- 'laws.FnResponse', WHERE WHAT IT READS IS OF BULK AT MOST 1048576: true; the input reads as it did. -/
def fnResponseUptoRow : OpenClaim := { program := "ytieklcdpnehpnaa", sum := "c24120ff34b6943cd3e96b4ea74ca3f93439f549e36b209b20a51d55be4e7a07", func := "pub-comitia/laws.FnResponse", spec := "fnResponse", apart := false, narrowed := true }
def FnResponseUptoSaid : Prop := fnResponseUptoRow.holds Try.pinned (OpenSpec.upto fnResponseSpec)

/-- 'laws.FnHard', WHERE WHAT IT READS IS OF BULK AT MOST 1048576: true; the input reads as it did. -/
def fnHardUptoRow : OpenClaim := { program := "ytieklcdpnehpnaa", sum := "c24120ff34b6943cd3e96b4ea74ca3f93439f549e36b209b20a51d55be4e7a07", func := "pub-comitia/laws.FnHard", spec := "fnHard", apart := false, narrowed := true }
def FnHardUptoSaid : Prop := fnHardUptoRow.holds Try.pinned (OpenSpec.upto fnHardSpec)

/-- 'laws.FnSliceLast', WHERE WHAT IT READS IS OF BULK AT MOST 1048576: true; the input reads as it did. -/
def fnSliceLastUptoRow : OpenClaim := { program := "ytieklcdpnehpnaa", sum := "c24120ff34b6943cd3e96b4ea74ca3f93439f549e36b209b20a51d55be4e7a07", func := "pub-comitia/laws.FnSliceLast", spec := "fnSliceLast", apart := false, narrowed := true }
def FnSliceLastUptoSaid : Prop := fnSliceLastUptoRow.holds Try.pinned (OpenSpec.upto fnSliceLastSpec)

/-- 'laws.FnEntsSize', WHERE WHAT IT READS IS OF BULK AT MOST 1048576: true; the input reads as it did. -/
def fnEntsSizeUptoRow : OpenClaim := { program := "ytieklcdpnehpnaa", sum := "c24120ff34b6943cd3e96b4ea74ca3f93439f549e36b209b20a51d55be4e7a07", func := "pub-comitia/laws.FnEntsSize", spec := "fnEntsSize", apart := false, narrowed := true }
def FnEntsSizeUptoSaid : Prop := fnEntsSizeUptoRow.holds Try.pinned (OpenSpec.upto fnEntsSizeSpec)

/-- 'laws.FnLeaves', WHERE WHAT IT READS IS OF BULK AT MOST 1048576: true; the input reads as it did. -/
def fnLeavesUptoRow : OpenClaim := { program := "ytieklcdpnehpnaa", sum := "c24120ff34b6943cd3e96b4ea74ca3f93439f549e36b209b20a51d55be4e7a07", func := "pub-comitia/laws.FnLeaves", spec := "fnLeaves", apart := false, narrowed := true }
def FnLeavesUptoSaid : Prop := fnLeavesUptoRow.holds Try.pinned (OpenSpec.upto fnLeavesSpec)

/-- 'laws.FnVoteAnswer', WHERE WHAT IT READS IS OF BULK AT MOST 1048576: true; the input reads as it did. -/
def fnVoteAnswerUptoRow : OpenClaim := { program := "ytieklcdpnehpnaa", sum := "c24120ff34b6943cd3e96b4ea74ca3f93439f549e36b209b20a51d55be4e7a07", func := "pub-comitia/laws.FnVoteAnswer", spec := "fnVoteAnswer", unfollowed := true, recurses := true, apart := false, narrowed := true }
def FnVoteAnswerUptoSaid : Prop := fnVoteAnswerUptoRow.holds Try.pinned (OpenSpec.upto fnVoteAnswerSpec)

end Rows
end Go.Proofs.Ytieklcdpnehpnaa
