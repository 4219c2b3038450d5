/-
  The laws' arguments opened: from the form's reading to what the walks are told, type by type.
-/
import Derived.Test.YtieklcdpnehpnaaRows
import Derived.Test.YtieklcdpnehpnaaSees
import Derived.Test.YtieklcdpnehpnaaChange
set_option linter.unusedVariables false
namespace Go.Proofs.Ytieklcdpnehpnaa
open Go.RowKit Go.ChangeShapes Go.WideShapes Go.ChangeAt

def entSh : Sh := .pair (.int .u64) (.pair (.int .u64) (.pair (.int .i64) (.pair .str .unit)))
def toEnt (x : entSh.Ty) : Ent := ⟨x.1, x.2.1, x.2.2.1, x.2.2.2.1⟩
/-- A plain entry's numbers fit their kinds, its data the length of a string. -/
def Ent.ok (e : Ent) : Prop := (0 ≤ e.term ∧ e.term < 18446744073709551616) ∧ (0 ≤ e.index ∧ e.index < 18446744073709551616) ∧ (-9223372036854775808 ≤ e.kind ∧ e.kind < 9223372036854775808) ∧ e.data.size ≤ maxLen
/-- Its four cells. -/
def Ent.cells (e : Ent) : List Value := [.int .u64 e.term, .int .u64 e.index, .int .i64 e.kind, .string e.data]

theorem wf_u64 {n : Int} (h : (Lit.int .u64 n).wf = true) : 0 ≤ n ∧ n < 18446744073709551616 := by
  simp [Lit.wf, IntKind.min, IntKind.max, IntKind.signed, IntKind.bits] at h; omega
theorem wf_i64 {n : Int} (h : (Lit.int .i64 n).wf = true) : -9223372036854775808 ≤ n ∧ n < 9223372036854775808 := by
  simp [Lit.wf, IntKind.min, IntKind.max, IntKind.signed, IntKind.bits] at h; omega

theorem seesEnt {w : World} {cs : List Value} {x : entSh.Ty} (h : Sees w entSh cs x) : cs = (toEnt x).cells ∧ (toEnt x).ok := by
  simp only [entSh, Sees] at h
  obtain ⟨_, _, rfl, ⟨rfl, h1⟩, _, _, rfl, ⟨rfl, h2⟩, _, _, rfl, ⟨rfl, h3⟩, _, _, rfl, ⟨rfl, h4⟩, rfl⟩ := h
  exact ⟨rfl, wf_u64 h1, wf_u64 h2, wf_i64 h3, h4⟩

section
variable {H : Type} {enc : TypeId × Value → H} {w : World} {sp : Nat → Bool} {d : DataW H} {ps : List MemPlace} {v : Value} {r : Reach} {b0 : Nat}

def hardSh : Sh := .pair (.int .u64) (.pair (.int .u64) (.pair (.int .u64) .unit))
theorem fitsHard : hardSh.fits Try.prog (.inl 25) = true := by kernel_rfl
set_option maxRecDepth 100000 in
theorem openHard (hv : Value.okWide Try.prog w r b0 25 v) (h : DataW.Trod enc Try.prog w 0 sp true 25 v d ps) :
    ∃ x : Int × Int × Int, v = .agg #[.int .u64 x.1, .int .u64 x.2.1, .int .u64 x.2.2] := by
  obtain ⟨x, hx⟩ := seesV_of hardSh fitsHard h
  obtain ⟨cs, rfl, hs⟩ := hx.agg Try.underlying25 hv
  simp only [hardSh, Sees] at hs
  obtain ⟨_, _, rfl, ⟨rfl, h1⟩, _, _, rfl, ⟨rfl, h2⟩, _, _, rfl, ⟨rfl, h3⟩, rfl⟩ := hs
  exact ⟨(x.1, x.2.1, x.2.2.1), rfl⟩

def chgSh : Sh := .pair (.int .i64) (.pair (.slice (.pair (.int .i64) (.pair (.int .u64) .unit))) (.pair .str .unit))
theorem fitsChange : chgSh.fits Try.prog (.inl 44) = true := by kernel_rfl
theorem seesSgl {w : World} {cs : List Value} {x : (Sh.pair (.int .i64) (.pair (.int .u64) .unit)).Ty} (h : Sees w (.pair (.int .i64) (.pair (.int .u64) .unit)) cs x) : cs = (Sgl.mk x.1 x.2.1).cells ∧ (Sgl.mk x.1 x.2.1).ok := by
  simp only [Sees] at h
  obtain ⟨_, _, rfl, ⟨rfl, h1⟩, _, _, rfl, ⟨rfl, h2⟩, rfl⟩ := h
  exact ⟨rfl, wf_i64 h1, wf_u64 h2⟩
set_option maxRecDepth 100000 in
theorem openChange (hv : Value.okWide Try.prog w r b0 44 v) (h : DataW.Trod enc Try.prog w 0 sp true 44 v d ps) :
    ∃ x : Int × List Sgl × ByteArray, ChangeV w v x := by
  obtain ⟨x, hx⟩ := seesV_of chgSh fitsChange h
  obtain ⟨cs, rfl, hs⟩ := hx.agg Try.underlying44 hv
  simp only [chgSh, Sees] at hs
  obtain ⟨_, _, rfl, ⟨rfl, h1⟩, _, _, rfl, h2, _, _, rfl, ⟨rfl, h3⟩, rfl⟩ := hs
  obtain ⟨a, len, cap, rfl, hr⟩ := Sees.row (s := .pair (.int .i64) (.pair (.int .u64) .unit)) h2
  exact ⟨(x.1, x.2.1.map fun y => Sgl.mk y.1 y.2.1, x.2.2.1), a, len, cap, rfl, (hr.flat (fun y => Sgl.mk y.1 y.2.1) Sgl.cells Sgl.ok 2 rfl fun _ _ hs => seesSgl hs).1⟩

end
end Go.Proofs.Ytieklcdpnehpnaa
