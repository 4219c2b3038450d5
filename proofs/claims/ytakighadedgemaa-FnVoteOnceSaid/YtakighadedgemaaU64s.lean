/-
  A slice of numbers that came in.
-/
import Derived.Test.YtakighadedgemaaRows
import Derived.Test.YtakighadedgemaaSees
set_option linter.unusedVariables false
set_option linter.unusedSimpArgs false
namespace Go.Proofs.Ytakighadedgemaa
open Go.RowKit Go.ChangeShapes Go.WideShapes Go.ChangeAt

def u64C (x : Int) : List Value := [.int .u64 x]
def U64V (w : World) (v : Value) (l : List Int) : Prop := ∃ a len cap, v = .slice a len cap ∧ FlatRow w 1 u64C a len cap l ∧ ∀ x, x ∈ l → 0 ≤ x ∧ x < 18446744073709551616
theorem fitsU64s : (Sh.slice (.int .u64)).fits Try.prog (.inl 22) = true := by kernel_rfl
section
variable {H : Type} {enc : TypeId × Value → H} {w : World} {sp : Nat → Bool} {d : DataW H} {ps : List MemPlace} {v : Value} {r : Reach} {b0 : Nat}
set_option maxRecDepth 100000 in
theorem openU64s (hv : Value.okWide Try.prog w r b0 22 v) (h : DataW.Trod enc Try.prog w 0 sp true 22 v d ps) : ∃ l : List Int, U64V w v l := by
  obtain ⟨x, hx⟩ := seesV_of (Sh.slice (.int .u64)) fitsU64s h
  obtain ⟨a, len, cap, rfl, hr⟩ := hx.slice Try.underlying22 hv
  obtain ⟨h1, h2⟩ := hr.flat (fun y : Int => y) u64C (fun y => 0 ≤ y ∧ y < 18446744073709551616) 1 rfl fun cs y hs => by
    simp only [Sees] at hs
    exact ⟨hs.1, wf_u64 hs.2⟩
  exact ⟨_, a, len, cap, rfl, h1, h2⟩
end
end Go.Proofs.Ytakighadedgemaa
