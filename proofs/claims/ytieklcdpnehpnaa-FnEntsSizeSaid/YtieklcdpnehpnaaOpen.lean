/-
  The laws' arguments opened: from the form's reading to what the walks are told, type by type.
-/
import Derived.Test.YtieklcdpnehpnaaRows
import Derived.Test.YtieklcdpnehpnaaSees
import Derived.Test.YtieklcdpnehpnaaChange
set_option linter.unusedVariables false
set_option linter.unusedSimpArgs false
namespace Go.Proofs.Ytieklcdpnehpnaa
open Go.RowKit Go.ChangeShapes Go.WideShapes Go.ChangeAt

def entSh : Sh := .pair (.int .u64) (.pair (.int .u64) (.pair (.int .i64) (.pair .str .unit)))
def toEnt (x : entSh.Ty) : Ent := ⟨x.1, x.2.1, x.2.2.1, x.2.2.2.1⟩
theorem seesEnt {w : World} {cs : List Value} {x : entSh.Ty} (h : Sees w entSh cs x) : cs = (toEnt x).cells ∧ (toEnt x).ok := by
  simp only [entSh, Sees] at h
  obtain ⟨_, _, rfl, ⟨rfl, h1⟩, _, _, rfl, ⟨rfl, h2⟩, _, _, rfl, ⟨rfl, h3⟩, _, _, rfl, ⟨rfl, h4⟩, rfl⟩ := h
  exact ⟨rfl, wf_u64 h1, wf_u64 h2, wf_i64 h3, h4⟩

section
variable {H : Type} {enc : TypeId × Value → H} {w : World} {sp : Nat → Bool} {d : DataW H} {ps : List MemPlace} {v : Value} {r : Reach} {b0 : Nat}

def hardSh : Sh := .pair (.int .u64) (.pair (.int .u64) (.pair (.int .u64) .unit))
theorem fitsHard : hardSh.fits Try.prog (.inl 25) = true := by kernel_rfl
set_option maxRecDepth 100000 in
theorem openHard (hv : Value.okWide Try.prog w r b0 25 v) (h : DataW.Trod enc Try.prog w 0 sp true 25 v d ps) :
    ∃ x : Int × Int × Int, v = .agg #[.int .u64 x.1, .int .u64 x.2.1, .int .u64 x.2.2] := by
  obtain ⟨x, hx⟩ := seesV_of hardSh fitsHard h
  obtain ⟨cs, rfl, hs⟩ := hx.agg Try.underlying25 hv
  simp only [hardSh, Sees] at hs
  obtain ⟨_, _, rfl, ⟨rfl, h1⟩, _, _, rfl, ⟨rfl, h2⟩, _, _, rfl, ⟨rfl, h3⟩, rfl⟩ := hs
  exact ⟨(x.1, x.2.1, x.2.2.1), rfl⟩

def chgSh : Sh := .pair (.int .i64) (.pair (.slice (.pair (.int .i64) (.pair (.int .u64) .unit))) (.pair .str .unit))
theorem fitsChange : chgSh.fits Try.prog (.inl 44) = true := by kernel_rfl
theorem seesSgl {w : World} {cs : List Value} {x : (Sh.pair (.int .i64) (.pair (.int .u64) .unit)).Ty} (h : Sees w (.pair (.int .i64) (.pair (.int .u64) .unit)) cs x) : cs = (Sgl.mk x.1 x.2.1).cells ∧ (Sgl.mk x.1 x.2.1).ok := by
  simp only [Sees] at h
  obtain ⟨_, _, rfl, ⟨rfl, h1⟩, _, _, rfl, ⟨rfl, h2⟩, rfl⟩ := h
  exact ⟨rfl, wf_i64 h1, wf_u64 h2⟩
set_option maxRecDepth 100000 in
theorem openChange (hv : Value.okWide Try.prog w r b0 44 v) (h : DataW.Trod enc Try.prog w 0 sp true 44 v d ps) :
    ∃ x : Int × List Sgl × ByteArray, ChangeV w v x := by
  obtain ⟨x, hx⟩ := seesV_of chgSh fitsChange h
  obtain ⟨cs, rfl, hs⟩ := hx.agg Try.underlying44 hv
  simp only [chgSh, Sees] at hs
  obtain ⟨_, _, rfl, ⟨rfl, h1⟩, _, _, rfl, h2, _, _, rfl, ⟨rfl, h3⟩, rfl⟩ := hs
  obtain ⟨a, len, cap, rfl, hr⟩ := Sees.row (s := .pair (.int .i64) (.pair (.int .u64) .unit)) h2
  exact ⟨(x.1, x.2.1.map fun y => Sgl.mk y.1 y.2.1, x.2.2.1), a, len, cap, rfl, (hr.flat (fun y => Sgl.mk y.1 y.2.1) Sgl.cells Sgl.ok 2 rfl fun _ _ hs => seesSgl hs).1⟩

def idSh : Sh := .pair (.int .u64) (.pair (.int .u64) .unit)
theorem fitsID : idSh.fits Try.prog (.inl 29) = true := by kernel_rfl
set_option maxRecDepth 100000 in
theorem openID (hv : Value.okWide Try.prog w r b0 29 v) (h : DataW.Trod enc Try.prog w 0 sp true 29 v d ps) :
    ∃ x : Int × Int, v = .agg #[.int .u64 x.1, .int .u64 x.2] ∧ (0 ≤ x.1 ∧ x.1 < 18446744073709551616) ∧ (0 ≤ x.2 ∧ x.2 < 18446744073709551616) := by
  obtain ⟨x, hx⟩ := seesV_of idSh fitsID h
  obtain ⟨cs, rfl, hs⟩ := hx.agg Try.underlying29 hv
  simp only [idSh, Sees] at hs
  obtain ⟨_, _, rfl, ⟨rfl, h1⟩, _, _, rfl, ⟨rfl, h2⟩, rfl⟩ := hs
  exact ⟨(x.1, x.2.1), rfl, wf_u64 h1, wf_u64 h2⟩

theorem fitsEnts : (Sh.slice entSh).fits Try.prog (.inl 30) = true := by kernel_rfl
/-- A slice of plain entries that came in. -/
def EntsV (w : World) (v : Value) (l : List Ent) : Prop := ∃ a len cap, v = .slice a len cap ∧ FlatRow w 4 Ent.cells a len cap l ∧ ∀ x, x ∈ l → x.ok
set_option maxRecDepth 100000 in
theorem openEnts (hv : Value.okWide Try.prog w r b0 30 v) (h : DataW.Trod enc Try.prog w 0 sp true 30 v d ps) : ∃ l : List Ent, EntsV w v l := by
  obtain ⟨x, hx⟩ := seesV_of (Sh.slice entSh) fitsEnts h
  obtain ⟨a, len, cap, rfl, hr⟩ := hx.slice Try.underlying30 hv
  obtain ⟨h1, h2⟩ := hr.flat toEnt Ent.cells Ent.ok 4 rfl fun _ _ hs => seesEnt hs
  exact ⟨_, a, len, cap, rfl, h1, h2⟩

end
end Go.Proofs.Ytieklcdpnehpnaa
