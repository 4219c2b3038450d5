/-
  The laws' arguments opened: from the form's reading to what the walks are told, type by type.
-/
import Derived.Test.YthfdhamencefiaaRows
import Derived.Test.YthfdhamencefiaaSees
set_option linter.unusedVariables false
set_option linter.unusedSimpArgs false
namespace Go.Proofs.Ythfdhamencefiaa
open Go.RowKit Go.ChangeShapes Go.WideShapes Go.ChangeAt

def entSh : Sh := .pair (.int .u64) (.pair (.int .u64) (.pair (.int .i64) (.pair .str .unit)))
def toEnt (x : entSh.Ty) : Ent := ⟨x.1, x.2.1, x.2.2.1, x.2.2.2.1⟩
theorem seesEnt {w : World} {cs : List Value} {x : entSh.Ty} (h : Sees w entSh cs x) : cs = (toEnt x).cells ∧ (toEnt x).ok := by
  simp only [entSh, Sees] at h
  obtain ⟨_, _, rfl, ⟨rfl, h1⟩, _, _, rfl, ⟨rfl, h2⟩, _, _, rfl, ⟨rfl, h3⟩, _, _, rfl, ⟨rfl, h4⟩, rfl⟩ := h
  exact ⟨rfl, wf_u64 h1, wf_u64 h2, wf_i64 h3, h4⟩

section
variable {H : Type} {enc : TypeId × Value → H} {w : World} {sp : Nat → Bool} {d : DataW H} {ps : List MemPlace} {v : Value} {r : Reach} {b0 : Nat}




theorem fitsEnts : (Sh.slice entSh).fits Try.prog (.inl 22) = true := by kernel_rfl
/-- A slice of plain entries that came in. -/
def EntsV (w : World) (v : Value) (l : List Ent) : Prop := ∃ a len cap, v = .slice a len cap ∧ FlatRow w 4 Ent.cells a len cap l ∧ ∀ x, x ∈ l → x.ok
set_option maxRecDepth 100000 in
theorem openEnts (hv : Value.okWide Try.prog w r b0 22 v) (h : DataW.Trod enc Try.prog w 0 sp true 22 v d ps) : ∃ l : List Ent, EntsV w v l := by
  obtain ⟨x, hx⟩ := seesV_of (Sh.slice entSh) fitsEnts h
  obtain ⟨a, len, cap, rfl, hr⟩ := hx.slice Try.underlying22 hv
  obtain ⟨h1, h2⟩ := hr.flat toEnt Ent.cells Ent.ok 4 rfl fun _ _ hs => seesEnt hs
  exact ⟨_, a, len, cap, rfl, h1, h2⟩

end
end Go.Proofs.Ythfdhamencefiaa
