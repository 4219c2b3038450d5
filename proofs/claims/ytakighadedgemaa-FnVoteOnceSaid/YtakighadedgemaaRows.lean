/-
  No cell of these rows narrows 'for every input' (looked for: loops, veiled, ifaces, maps, wideKeys, modest, calm, conditions, laid).
  DERIVED. THE GIVEN ROWS OF THIS SEAT. 6 by the template 'for every input the law returns true; each argument reads behind the call as it read before'; 0 by the template 'total and deterministic' (their statements: YtakighadedgemaaTotals.lean).
  GIVEN WITH THE SEED: the statements are not yours to turn. If you find one false, say at which input.
  Laid BY PROGRAM, IN A SANDBOX (cutbox-rows.mjs): the forced cells as the released guide's own fill.sh prints them over the translation 7c15a4478f75fbfa… (all of the seat's roots in one cut). By AI agents, Wed Nov 11 2026. No macro, syntax, notation, axiom, sorry.
-/
import Derived.Test.YtakighadedgemaaChecked
import GoSem.Claim
import GoSem.ClaimJoined
import GoSem.ClaimMapViews
import Derived.JoinedTies
import Derived.KernelRfl
namespace Go.Proofs.Ytakighadedgemaa
/- THE CELL 'sum', in the pinned program and in every row, IS THE sha256 OF THE DUMP (.gsa) THAT YtakighadedgemaaProg.lean LOADS. Nothing in Lean hashes anything: it is a label: what it is worth is what the hold of that sum in a sandbox is worth. -/
noncomputable def Try.pinned : Pinned := { name := "ytakighadedgemaa", sum := "7c15a4478f75fbfa4ca91cad89c4a02115739e81b38ed5a7b1ec02706d4200ec", checked := Try.checked }
namespace Rows
def none {H : Type} : Left H := { results := [], args := [] }

/-- 'laws.FnJointVoteResult': WHATEVER THE INPUT: true; the input reads as it did. -/
def fnJointVoteResultSpec : ChangeSpec := { name := "fnJointVoteResult", fn := fun _ => fun
  | [d1, d2, d3] => { results := [.lit (.bool true)], args := [d1, d2, d3] }
  | _ => none }
def fnJointVoteResultRow : OpenClaim := { program := "ytakighadedgemaa", sum := "7c15a4478f75fbfa4ca91cad89c4a02115739e81b38ed5a7b1ec02706d4200ec", func := "pub-comitia/laws.FnJointVoteResult", spec := "fnJointVoteResult", apart := false }
def FnJointVoteResultSaid : Prop := fnJointVoteResultRow.holds Try.pinned (OpenSpec.ofChange fnJointVoteResultSpec)

/-- ITS FALSE NEIGHBOUR: 'it returns false'. Refute it at one input. -/
def fnJointVoteResultWrong : ChangeSpec := { name := "fnJointVoteResult", fn := fun _ => fun
  | [d1, d2, d3] => { results := [.lit (.bool false)], args := [d1, d2, d3] }
  | _ => none }
def FnJointVoteResultWrongFalsely : Prop := fnJointVoteResultRow.holds Try.pinned (OpenSpec.ofChange fnJointVoteResultWrong)

/-- 'laws.FnVoteOnce': WHATEVER THE INPUT: true; the input reads as it did. -/
def fnVoteOnceSpec : ChangeSpec := { name := "fnVoteOnce", fn := fun _ => fun
  | [d1, d2, d3, d4] => { results := [.lit (.bool true)], args := [d1, d2, d3, d4] }
  | _ => none }
def fnVoteOnceRow : OpenClaim := { program := "ytakighadedgemaa", sum := "7c15a4478f75fbfa4ca91cad89c4a02115739e81b38ed5a7b1ec02706d4200ec", func := "pub-comitia/laws.FnVoteOnce", spec := "fnVoteOnce", apart := false }
def FnVoteOnceSaid : Prop := fnVoteOnceRow.holds Try.pinned (OpenSpec.ofChange fnVoteOnceSpec)

/-- ITS FALSE NEIGHBOUR: 'it returns false'. Refute it at one input. -/
def fnVoteOnceWrong : ChangeSpec := { name := "fnVoteOnce", fn := fun _ => fun
  | [d1, d2, d3, d4] => { results := [.lit (.bool false)], args := [d1, d2, d3, d4] }
  | _ => none }
def FnVoteOnceWrongFalsely : Prop := fnVoteOnceRow.holds Try.pinned (OpenSpec.ofChange fnVoteOnceWrong)

/-- 'laws.FnCommittedReached': WHATEVER THE INPUT: true; the input reads as it did. -/
def fnCommittedReachedSpec : ChangeSpec := { name := "fnCommittedReached", fn := fun _ => fun
  | [d1, d2, d3] => { results := [.lit (.bool true)], args := [d1, d2, d3] }
  | _ => none }
def fnCommittedReachedRow : OpenClaim := { program := "ytakighadedgemaa", sum := "7c15a4478f75fbfa4ca91cad89c4a02115739e81b38ed5a7b1ec02706d4200ec", func := "pub-comitia/laws.FnCommittedReached", spec := "fnCommittedReached", unfollowed := true, recurses := true, apart := false }
def FnCommittedReachedSaid : Prop := fnCommittedReachedRow.holds Try.pinned (OpenSpec.ofChange fnCommittedReachedSpec)

/-- ITS FALSE NEIGHBOUR: 'it returns false'. Refute it at one input. -/
def fnCommittedReachedWrong : ChangeSpec := { name := "fnCommittedReached", fn := fun _ => fun
  | [d1, d2, d3] => { results := [.lit (.bool false)], args := [d1, d2, d3] }
  | _ => none }
def FnCommittedReachedWrongFalsely : Prop := fnCommittedReachedRow.holds Try.pinned (OpenSpec.ofChange fnCommittedReachedWrong)

/-- 'laws.FnJointCommitted': WHATEVER THE INPUT: true; the input reads as it did. -/
def fnJointCommittedSpec : ChangeSpec := { name := "fnJointCommitted", fn := fun _ => fun
  | [d1, d2, d3] => { results := [.lit (.bool true)], args := [d1, d2, d3] }
  | _ => none }
def fnJointCommittedRow : OpenClaim := { program := "ytakighadedgemaa", sum := "7c15a4478f75fbfa4ca91cad89c4a02115739e81b38ed5a7b1ec02706d4200ec", func := "pub-comitia/laws.FnJointCommitted", spec := "fnJointCommitted", unfollowed := true, recurses := true, apart := false }
def FnJointCommittedSaid : Prop := fnJointCommittedRow.holds Try.pinned (OpenSpec.ofChange fnJointCommittedSpec)

/-- ITS FALSE NEIGHBOUR: 'it returns false'. Refute it at one input. -/
def fnJointCommittedWrong : ChangeSpec := { name := "fnJointCommitted", fn := fun _ => fun
  | [d1, d2, d3] => { results := [.lit (.bool false)], args := [d1, d2, d3] }
  | _ => none }
def FnJointCommittedWrongFalsely : Prop := fnJointCommittedRow.holds Try.pinned (OpenSpec.ofChange fnJointCommittedWrong)

/-- 'laws.FnTrackCommitted': WHATEVER THE INPUT: true; the input reads as it did. -/
def fnTrackCommittedSpec : ChangeSpec := { name := "fnTrackCommitted", fn := fun _ => fun
  | [d1, d2] => { results := [.lit (.bool true)], args := [d1, d2] }
  | _ => none }
def fnTrackCommittedRow : OpenClaim := { program := "ytakighadedgemaa", sum := "7c15a4478f75fbfa4ca91cad89c4a02115739e81b38ed5a7b1ec02706d4200ec", func := "pub-comitia/laws.FnTrackCommitted", spec := "fnTrackCommitted", unfollowed := true, recurses := true, apart := false }
def FnTrackCommittedSaid : Prop := fnTrackCommittedRow.holds Try.pinned (OpenSpec.ofChange fnTrackCommittedSpec)

/-- ITS FALSE NEIGHBOUR: 'it returns false'. Refute it at one input. -/
def fnTrackCommittedWrong : ChangeSpec := { name := "fnTrackCommitted", fn := fun _ => fun
  | [d1, d2] => { results := [.lit (.bool false)], args := [d1, d2] }
  | _ => none }
def FnTrackCommittedWrongFalsely : Prop := fnTrackCommittedRow.holds Try.pinned (OpenSpec.ofChange fnTrackCommittedWrong)

/-- 'laws.FnQuorumActive': WHATEVER THE INPUT: true; the input reads as it did. -/
def fnQuorumActiveSpec : ChangeSpec := { name := "fnQuorumActive", fn := fun _ => fun
  | [d1, d2] => { results := [.lit (.bool true)], args := [d1, d2] }
  | _ => none }
def fnQuorumActiveRow : OpenClaim := { program := "ytakighadedgemaa", sum := "7c15a4478f75fbfa4ca91cad89c4a02115739e81b38ed5a7b1ec02706d4200ec", func := "pub-comitia/laws.FnQuorumActive", spec := "fnQuorumActive", unfollowed := true, recurses := true, apart := false }
def FnQuorumActiveSaid : Prop := fnQuorumActiveRow.holds Try.pinned (OpenSpec.ofChange fnQuorumActiveSpec)

/-- ITS FALSE NEIGHBOUR: 'it returns false'. Refute it at one input. -/
def fnQuorumActiveWrong : ChangeSpec := { name := "fnQuorumActive", fn := fun _ => fun
  | [d1, d2] => { results := [.lit (.bool false)], args := [d1, d2] }
  | _ => none }
def FnQuorumActiveWrongFalsely : Prop := fnQuorumActiveRow.holds Try.pinned (OpenSpec.ofChange fnQuorumActiveWrong)

/- THE SECOND FORM. 'bulk': how many values and letters a reading holds, each counted each time it is reached (what is shared counts as often as it is met; a slice's spare places count too). A statement '..UptoSaid' is the law's where the arguments, and the package variables that the reading takes, are together of bulk at most 1048576: NARROWER than '..Said'. Prove '..Said' where nothing that the law and all that it calls make is longer than what came in: it says more and counts as full. Else prove '..UptoSaid'. A law counts once. -/
mutual
def uptoBulk {H : Type} : DataW H → Nat
  | .lit (.string bytes) => bytes.length + 1
  | .lit _ => 1
  | .nil => 1
  | .ptr d => uptoBulk d + 1
  | .slice elems spare => uptoBulkAll elems + uptoBulkAll spare + 1
  | .agg parts => uptoBulkAll parts + 1
  | .iface _ d => uptoBulk d + 1
  | .map entries => uptoBulkEntries entries + 1
  | .held _ => 1
def uptoBulkAll {H : Type} : List (DataW H) → Nat
  | [] => 0
  | d :: r => uptoBulk d + uptoBulkAll r
def uptoBulkEntries {H : Type} : List (Lit × DataW H) → Nat
  | [] => 0
  | x :: r => uptoBulkEntry x + uptoBulkEntries r
def uptoBulkEntry {H : Type} : Lit × DataW H → Nat
  | (.string bytes, d) => bytes.length + uptoBulk d + 1
  | (_, d) => uptoBulk d + 1
 end
def uptoSmall : (H : Type) → List (DataW H) → Bool := fun _ ds => decide (uptoBulkAll ds ≤ 1048576)
def OpenSpec.upto (s : _root_.Go.ChangeSpec) : _root_.Go.OpenSpec := { _root_.Go.OpenSpec.ofChange s with cond := some uptoSmall }

/-- 'laws.FnJointVoteResult', WHERE WHAT IT READS IS OF BULK AT MOST 1048576: true; the input reads as it did. -/
def fnJointVoteResultUptoRow : OpenClaim := { program := "ytakighadedgemaa", sum := "7c15a4478f75fbfa4ca91cad89c4a02115739e81b38ed5a7b1ec02706d4200ec", func := "pub-comitia/laws.FnJointVoteResult", spec := "fnJointVoteResult", apart := false, narrowed := true }
def FnJointVoteResultUptoSaid : Prop := fnJointVoteResultUptoRow.holds Try.pinned (OpenSpec.upto fnJointVoteResultSpec)

/-- 'laws.FnVoteOnce', WHERE WHAT IT READS IS OF BULK AT MOST 1048576: true; the input reads as it did. -/
def fnVoteOnceUptoRow : OpenClaim := { program := "ytakighadedgemaa", sum := "7c15a4478f75fbfa4ca91cad89c4a02115739e81b38ed5a7b1ec02706d4200ec", func := "pub-comitia/laws.FnVoteOnce", spec := "fnVoteOnce", apart := false, narrowed := true }
def FnVoteOnceUptoSaid : Prop := fnVoteOnceUptoRow.holds Try.pinned (OpenSpec.upto fnVoteOnceSpec)

/-- 'laws.FnCommittedReached', WHERE WHAT IT READS IS OF BULK AT MOST 1048576: true; the input reads as it did. -/
def fnCommittedReachedUptoRow : OpenClaim := { program := "ytakighadedgemaa", sum := "7c15a4478f75fbfa4ca91cad89c4a02115739e81b38ed5a7b1ec02706d4200ec", func := "pub-comitia/laws.FnCommittedReached", spec := "fnCommittedReached", unfollowed := true, recurses := true, apart := false, narrowed := true }
def FnCommittedReachedUptoSaid : Prop := fnCommittedReachedUptoRow.holds Try.pinned (OpenSpec.upto fnCommittedReachedSpec)

/-- 'laws.FnJointCommitted', WHERE WHAT IT READS IS OF BULK AT MOST 1048576: true; the input reads as it did. -/
def fnJointCommittedUptoRow : OpenClaim := { program := "ytakighadedgemaa", sum := "7c15a4478f75fbfa4ca91cad89c4a02115739e81b38ed5a7b1ec02706d4200ec", func := "pub-comitia/laws.FnJointCommitted", spec := "fnJointCommitted", unfollowed := true, recurses := true, apart := false, narrowed := true }
def FnJointCommittedUptoSaid : Prop := fnJointCommittedUptoRow.holds Try.pinned (OpenSpec.upto fnJointCommittedSpec)

/-- 'laws.FnTrackCommitted', WHERE WHAT IT READS IS OF BULK AT MOST 1048576: true; the input reads as it did. -/
def fnTrackCommittedUptoRow : OpenClaim := { program := "ytakighadedgemaa", sum := "7c15a4478f75fbfa4ca91cad89c4a02115739e81b38ed5a7b1ec02706d4200ec", func := "pub-comitia/laws.FnTrackCommitted", spec := "fnTrackCommitted", unfollowed := true, recurses := true, apart := false, narrowed := true }
def FnTrackCommittedUptoSaid : Prop := fnTrackCommittedUptoRow.holds Try.pinned (OpenSpec.upto fnTrackCommittedSpec)

/-- 'laws.FnQuorumActive', WHERE WHAT IT READS IS OF BULK AT MOST 1048576: true; the input reads as it did. -/
def fnQuorumActiveUptoRow : OpenClaim := { program := "ytakighadedgemaa", sum := "7c15a4478f75fbfa4ca91cad89c4a02115739e81b38ed5a7b1ec02706d4200ec", func := "pub-comitia/laws.FnQuorumActive", spec := "fnQuorumActive", unfollowed := true, recurses := true, apart := false, narrowed := true }
def FnQuorumActiveUptoSaid : Prop := fnQuorumActiveUptoRow.holds Try.pinned (OpenSpec.upto fnQuorumActiveSpec)

end Rows
end Go.Proofs.Ytakighadedgemaa
