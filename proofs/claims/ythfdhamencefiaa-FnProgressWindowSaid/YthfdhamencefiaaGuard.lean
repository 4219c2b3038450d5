/-
  guarded: a function value is called; a panic in it is caught and told.
-/
import Derived.Test.YthfdhamencefiaaRows
import Derived.Test.YthfdhamencefiaaBase
import Derived.Defers
import Derived.Recover
set_option linter.unusedVariables false
set_option linter.unusedSimpArgs false
namespace Go.Proofs.Ythfdhamencefiaa
open Go.RowKit

theorem setCell_same_val {w : World} {b : Nat} {v : Value} {t : TypeId} (h : Blk w b #[v] t) : w.setCell ⟨b, 0, none⟩ v = w := by
  have hb := one_setCell (u := v) h
  have : (w.setCell ⟨b, 0, none⟩ v).heap = w.heap := by
    apply Array.ext_getElem?
    intro k
    by_cases hk : k = b
    · subst hk; rw [hb]; exact h.symm
    · exact heap_setCell_other w ⟨b, 0, none⟩ k v hk
  show ({ w with heap := (w.setCell ⟨b, 0, none⟩ v).heap } : World) = w
  rw [this]

/-- the deferred function, the frame below it returning: nothing to recover -/
theorem guard_idle (b : Nat) (w : World) (hb : Blk w b #[.bool false] 4) :
    CallsD Try.prog 56 #[.pointer (some ⟨b, 0, none⟩)] .returning w fun e u' w' => e = .returned (.tuple #[]) ∧ u' = .returning ∧ w' = w := by
  have hc := hb.cell 0
  have hz := hb.free 0
  simp at hc
  refine callsD_of_wpS Try.func56 rfl fun c₀ cs hu => ?_
  apply wpS_region
  have hs := setCell_same_val hb
  cases c₀
  simp only at hu
  subst hu
  simp [wpOpsS, go_sem, recoverD, Try.ntmps56, hc, hz, hs, bodyPostS, results, Try.results56]

/-- the deferred function, the frame below it panicking: the panic is recovered, and told -/
theorem guard_catch (b : Nat) (w : World) (u : TypeId) (pv : Value) (older : List PanicEntry) (hb : Blk w b #[.bool false] 4) :
    CallsD Try.prog 56 #[.pointer (some ⟨b, 0, none⟩)] (.panicking ({ v := .iface u pv, recovered := false } :: older)) w fun e u' w' =>
      e = .returned (.tuple #[]) ∧ u' = .panicking ({ v := .iface u pv, recovered := true } :: older) ∧ w' = w.setCell ⟨b, 0, none⟩ (.bool true) := by
  have hc := hb.cell 0
  have hz := hb.free 0
  simp at hc
  refine callsD_of_wpS Try.func56 rfl fun c₀ cs hu => ?_
  apply wpS_region
  cases c₀
  simp only at hu
  subst hu
  simp [wpOpsS, go_sem, recoverD, Try.ntmps56, hc, hz, bodyPostS, results, Try.results56]

theorem results_cell_bool {fn : Func} {p : Tmp} (h : fn.results = #[.cell p 4]) (tmps : Array Value) (w : World) (b : Nat) (v : Bool) (hp : tmps.getD p undef = .pointer (some ⟨b, 0, none⟩)) (hb : Blk w b #[.bool v] 4) :
    (results fn tmps).run Try.prog w = .ok (.bool v) w := by
  have hp' : tmps[p]?.getD undef = .pointer (some ⟨b, 0, none⟩) := by simpa using hp
  have hc := hb.cell 0
  simp at hc
  simp [results, h, hp', asAddr, go_sem, hc]

/-- What a guarded call must come to: it returns, or it panics with a value; the told cell untouched. -/
def Told (b : Nat) (R : Bool → World → Prop) (e : Ending) (w : World) : Prop :=
  Blk w b #[.bool false] 4 ∧ ((∃ v, e = .returned v ∧ R false w) ∨ (∃ u pv, e = .panicked [{ v := .iface u pv, recovered := false }] ∧ R true (w.setCell ⟨b, 0, none⟩ (.bool true))))

set_option maxHeartbeats 400000 in
theorem guarded_any (k : FuncId) (caps : Array Value) (w : World) (R : Bool → World → Prop)
    (hk : ∀ W, (callFunc k caps).run Try.prog W = .ok (.enter k caps) W)
    (h : Calls Try.prog k caps (w.alloc (.cells #[.bool false] 4)) (Told w.heap.size R)) :
    Calls Try.prog 34 #[.func (.func k) #[] caps] w fun e w' => ∃ b, e = .returned (.bool b) ∧ R b w' := by
  have hmf : ∀ (fn : Fn) (first cap : Array Value) (w : World), (Instr.makeFunc fn first cap).run Try.prog w = .ok (.func fn first cap) w := fun _ _ _ _ => rfl
  go_enter_defers Try.func34, Try.ntmps34
  go_wp2_with fail
  refine Calls.mono h ?_
  rintro e w1 ⟨hb, ⟨v, rfl, hR⟩ | ⟨u, pv, rfl, hR⟩⟩
  · have hc := hb.cell 0
    have hz := hb.free 0
    have hs := setCell_same_val hb
    simp at hc
    go_wp2_with fail
    refine leaves_cons (f := 56) (args := #[.pointer (some ⟨w.heap.size, 0, none⟩)]) (by simp) (by simp [go_sem]) ?_
    refine (guard_idle _ _ hb).mono ?_
    rintro e u' w'' ⟨rfl, rfl, rfl⟩
    have hr := results_cell_bool (fn := Try.f34) (p := 2) rfl #[Value.func (Fn.func k) #[] caps, undef, Value.pointer (some { block := w.heap.size, off := 0 }), Value.func (Fn.func 56) #[] #[Value.pointer (some { block := w.heap.size, off := 0 })], Value.func (Fn.func k) #[] caps, v] w'' w.heap.size false rfl hb
    exact ⟨_, hr, false, rfl, hR⟩
  · go_wp2_with fail
    refine leaves_cons (f := 56) (args := #[.pointer (some ⟨w.heap.size, 0, none⟩)]) (by simp) (by simp [go_sem]) ?_
    refine (guard_catch _ _ u pv [] hb).mono ?_
    rintro e u' w'' ⟨rfl, rfl, rfl⟩
    have hr := results_cell_bool (fn := Try.f34) (p := 2) rfl #[Value.func (Fn.func k) #[] caps, undef, Value.pointer (some { block := w.heap.size, off := 0 }), Value.func (Fn.func 56) #[] #[Value.pointer (some { block := w.heap.size, off := 0 })], Value.func (Fn.func k) #[] caps, undef] _ w.heap.size true rfl (one_setCell hb)
    exact ⟨_, hr, true, rfl, hR⟩

end Go.Proofs.Ythfdhamencefiaa
