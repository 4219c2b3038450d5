/-
  What all texts of this seat lean on: blocks known whole, frames. No program in sight.
-/
import Derived.WalkKit
import Derived.WalkSpells
import Derived.WalkLawsBesides
import Derived.Deep.WholeRow
import Derived.Lib.Hide
set_option linter.unusedVariables false
set_option linter.unusedSimpArgs false
namespace Go.Proofs.Ythfdhamencefiaa
open Go.RowKit

/-- Block b holds the cells c of element type t, and may be written. -/
def Blk (w : World) (b : Nat) (c : Array Value) (t : TypeId) : Prop := w.heap[b]? = some (.cells c t (0, 0))

/-- Nothing that was there has turned. -/
abbrev Ext (w w' : World) : Prop := Below w.heap.size w w'

/-- Of what was there only the blocks that F names may have turned. -/
structure Chg (F : Nat → Prop) (w w' : World) : Prop where
  os : w'.os = w.os
  tape : w'.tape = w.tape
  output : w'.output = w.output
  size : w.heap.size ≤ w'.heap.size
  block : ∀ k, k < w.heap.size → ¬ F k → w'.heap[k]? = w.heap[k]?

theorem Blk.lt {w : World} {b : Nat} {c : Array Value} {t : TypeId} (h : Blk w b c t) : b < w.heap.size := lt_of_block h
theorem Blk.cell {w : World} {b : Nat} {c : Array Value} {t : TypeId} (h : Blk w b c t) (i : Nat) : w.cell? ⟨b, i, none⟩ = c[i]? := cell_of_row w b i c t _ h
theorem Blk.free {w : World} {b : Nat} {c : Array Value} {t : TypeId} (h : Blk w b c t) (i : Nat) : w.frozen? ⟨b, i, none⟩ = false := frozen_of_row w b i c t h
theorem Blk.ne {w : World} {b b' : Nat} {c c' : Array Value} {t t' : TypeId} (h : Blk w b c t) (h' : Blk w b' c' t') (ht : t ≠ t') : b ≠ b' := by
  intro e; subst e
  unfold Blk at h h'
  rw [h] at h'
  simp at h'
  exact ht h'.2
theorem Blk.ext {w w' : World} {b : Nat} {c : Array Value} {t : TypeId} (h : Blk w b c t) (e : Ext w w') : Blk w' b c t := (e.block b h.lt).trans h
theorem Blk.chg {w w' : World} {F : Nat → Prop} {b : Nat} {c : Array Value} {t : TypeId} (h : Blk w b c t) (e : Chg F w w') (hb : ¬ F b) : Blk w' b c t := (e.block b h.lt hb).trans h
theorem Blk.alloc {w : World} {b : Nat} {c : Array Value} {t : TypeId} (h : Blk w b c t) (o : Obj) : Blk (w.alloc o) b c t := (Below.heap_alloc w o b h.lt).trans h
theorem Blk.new (w : World) (c : Array Value) (t : TypeId) : Blk (w.alloc (.cells c t)) w.heap.size c t := heap_alloc_new w _
theorem Blk.drew {w : World} {b : Nat} {c : Array Value} {t : TypeId} (h : Blk w b c t) : Blk w.drew b c t := h
theorem Blk.drewN {w : World} {b : Nat} {c : Array Value} {t : TypeId} (h : Blk w b c t) (n : Nat) : Blk (w.drewN n) b c t := h
theorem Blk.set {w : World} {b : Nat} {c : Array Value} {t : TypeId} (h : Blk w b c t) (i : Nat) (v : Value) : Blk (w.setCell ⟨b, i, none⟩ v) b (c.setIfInBounds i v) t := heap_setCell_same w b i c t v h
theorem Blk.setOther {w : World} {b : Nat} {c : Array Value} {t : TypeId} (h : Blk w b c t) {a : Addr} (hne : b ≠ a.block) (v : Value) : Blk (w.setCell a v) b c t := (heap_setCell_other w a b v hne).trans h
theorem Blk.same {w : World} {b : Nat} {c c' : Array Value} {t t' : TypeId} (h : Blk w b c t) (h' : Blk w b c' t') : c = c' ∧ t = t' := by
  unfold Blk at h h'
  rw [h] at h'
  simpa using h'

theorem Ext.refl (w : World) : Ext w w := Below.refl _ _
theorem Ext.trans {a b c : World} (h : Ext a b) (k : Ext b c) : Ext a c := Below.trans h (k.mono h.size)
theorem Ext.alloc {a b : World} (h : Ext a b) (o : Obj) : Ext a (b.alloc o) := Below.alloc h h.size o
theorem Ext.drew {a b : World} (h : Ext a b) : Ext a b.drew := Below.drew h
theorem Ext.drewN {a b : World} (h : Ext a b) (n : Nat) : Ext a (b.drewN n) := ⟨h.os, h.tape, h.output, h.size, h.block⟩
/-- a store into a block that was not there -/
theorem Ext.set {a b : World} (h : Ext a b) {p : Addr} (hp : a.heap.size ≤ p.block) (v : Value) : Ext a (b.setCell p v) := Below.setCell h hp v
theorem Ext.grown {a b c : World} {row : Option Nat} (h : Ext a b) (hg : b.grownBy c row) (hr : ∀ k, row = some k → a.heap.size ≤ k) : Ext a c := Below.grown h hg h.size hr

theorem Chg.refl (F : Nat → Prop) (w : World) : Chg F w w := ⟨rfl, rfl, rfl, Nat.le_refl _, fun _ _ _ => rfl⟩
theorem Chg.trans {F : Nat → Prop} {a b c : World} (h : Chg F a b) (k : Chg F b c) : Chg F a c :=
  ⟨k.os.trans h.os, k.tape.trans h.tape, k.output.trans h.output, Nat.le_trans h.size k.size, fun i hi hF => (k.block i (Nat.lt_of_lt_of_le hi h.size) hF).trans (h.block i hi hF)⟩
theorem Chg.mono {F G : Nat → Prop} {a b : World} (h : Chg F a b) (hFG : ∀ k, k < a.heap.size → F k → G k) : Chg G a b :=
  ⟨h.os, h.tape, h.output, h.size, fun i hi hG => h.block i hi fun hF => hG (hFG i hi hF)⟩
theorem Chg.of_ext {F : Nat → Prop} {a b : World} (h : Ext a b) : Chg F a b := ⟨h.os, h.tape, h.output, h.size, fun i hi _ => h.block i hi⟩
theorem Chg.ext {F : Nat → Prop} {a b : World} (h : Chg F a b) (hF : ∀ k, k < a.heap.size → ¬ F k) : Ext a b := ⟨h.os, h.tape, h.output, h.size, fun i hi => h.block i hi (hF i hi)⟩
theorem Chg.set {F : Nat → Prop} {a b : World} (h : Chg F a b) {p : Addr} (hp : F p.block ∨ a.heap.size ≤ p.block) (v : Value) : Chg F a (b.setCell p v) :=
  ⟨h.os, h.tape, h.output, by simp [World.setCell]; exact h.size, fun k hk hF => (Below.heap_setCell b p v k (by
    rcases hp with hp | hp
    · intro e; subst e; exact hF hp
    · omega)).trans (h.block k hk hF)⟩
theorem Chg.alloc {F : Nat → Prop} {a b : World} (h : Chg F a b) (o : Obj) : Chg F a (b.alloc o) := h.trans (Chg.of_ext ((Ext.refl _).alloc o))
theorem Chg.drew {F : Nat → Prop} {a b : World} (h : Chg F a b) : Chg F a b.drew := ⟨h.os, h.tape, h.output, h.size, h.block⟩
theorem Chg.drewN {F : Nat → Prop} {a b : World} (h : Chg F a b) (n : Nat) : Chg F a (b.drewN n) := ⟨h.os, h.tape, h.output, h.size, h.block⟩

/-- What the walk reads behind a call that leaves all that was there: each old cell, each old mark. -/
theorem Ext.reads {w w' : World} (h : Ext w w') : (∀ b o, b < w.heap.size → w'.cell? ⟨b, o, none⟩ = w.cell? ⟨b, o, none⟩) ∧ (∀ b o, b < w.heap.size → w'.frozen? ⟨b, o, none⟩ = w.frozen? ⟨b, o, none⟩) :=
  ⟨fun b o hb => Below.cell h (p := ⟨b, o, none⟩) hb, fun b o hb => Below.frozen h (p := ⟨b, o, none⟩) hb⟩

/-! A number is below itself and some more: for the walk's own simp. -/
@[simp, go_sem] theorem lt_up2 (n : Nat) : n < n + 1 + 1 := by omega
@[simp, go_sem] theorem lt_up3 (n : Nat) : n < n + 1 + 1 + 1 := by omega
@[simp, go_sem] theorem lt_up4 (n : Nat) : n < n + 1 + 1 + 1 + 1 := by omega
@[simp, go_sem] theorem lt_up5 (n : Nat) : n < n + 1 + 1 + 1 + 1 + 1 := by omega
@[simp, go_sem] theorem lt_up6 (n : Nat) : n < n + 1 + 1 + 1 + 1 + 1 + 1 := by omega
@[simp, go_sem] theorem lt_up7 (n : Nat) : n < n + 1 + 1 + 1 + 1 + 1 + 1 + 1 := by omega
@[simp, go_sem] theorem lt_up8 (n : Nat) : n < n + 1 + 1 + 1 + 1 + 1 + 1 + 1 + 1 := by omega
@[simp, go_sem] theorem lt_up9 (n : Nat) : n < n + 1 + 1 + 1 + 1 + 1 + 1 + 1 + 1 + 1 := by omega
@[simp, go_sem] theorem lt_up10 (n : Nat) : n < n + 1 + 1 + 1 + 1 + 1 + 1 + 1 + 1 + 1 + 1 := by omega
@[simp, go_sem] theorem lt_up11 (n : Nat) : n < n + 1 + 1 + 1 + 1 + 1 + 1 + 1 + 1 + 1 + 1 + 1 := by omega
@[simp, go_sem] theorem lt_up12 (n : Nat) : n < n + 1 + 1 + 1 + 1 + 1 + 1 + 1 + 1 + 1 + 1 + 1 + 1 := by omega
@[simp, go_sem] theorem lt_up13 (n : Nat) : n < n + 1 + 1 + 1 + 1 + 1 + 1 + 1 + 1 + 1 + 1 + 1 + 1 + 1 := by omega
@[simp, go_sem] theorem lt_up14 (n : Nat) : n < n + 1 + 1 + 1 + 1 + 1 + 1 + 1 + 1 + 1 + 1 + 1 + 1 + 1 + 1 := by omega
@[simp, go_sem] theorem lt_up15 (n : Nat) : n < n + 1 + 1 + 1 + 1 + 1 + 1 + 1 + 1 + 1 + 1 + 1 + 1 + 1 + 1 + 1 := by omega
@[simp, go_sem] theorem lt_up16 (n : Nat) : n < n + 1 + 1 + 1 + 1 + 1 + 1 + 1 + 1 + 1 + 1 + 1 + 1 + 1 + 1 + 1 + 1 := by omega
@[simp, go_sem] theorem lt_up17 (n : Nat) : n < n + 1 + 1 + 1 + 1 + 1 + 1 + 1 + 1 + 1 + 1 + 1 + 1 + 1 + 1 + 1 + 1 + 1 := by omega
@[simp, go_sem] theorem lt_up18 (n : Nat) : n < n + 1 + 1 + 1 + 1 + 1 + 1 + 1 + 1 + 1 + 1 + 1 + 1 + 1 + 1 + 1 + 1 + 1 + 1 := by omega
@[simp, go_sem] theorem lt_up19 (n : Nat) : n < n + 1 + 1 + 1 + 1 + 1 + 1 + 1 + 1 + 1 + 1 + 1 + 1 + 1 + 1 + 1 + 1 + 1 + 1 + 1 := by omega
@[simp, go_sem] theorem lt_up20 (n : Nat) : n < n + 1 + 1 + 1 + 1 + 1 + 1 + 1 + 1 + 1 + 1 + 1 + 1 + 1 + 1 + 1 + 1 + 1 + 1 + 1 + 1 := by omega
@[simp, go_sem] theorem lt_up21 (n : Nat) : n < n + 1 + 1 + 1 + 1 + 1 + 1 + 1 + 1 + 1 + 1 + 1 + 1 + 1 + 1 + 1 + 1 + 1 + 1 + 1 + 1 + 1 := by omega
@[simp, go_sem] theorem lt_up22 (n : Nat) : n < n + 1 + 1 + 1 + 1 + 1 + 1 + 1 + 1 + 1 + 1 + 1 + 1 + 1 + 1 + 1 + 1 + 1 + 1 + 1 + 1 + 1 + 1 := by omega
@[simp, go_sem] theorem lt_up23 (n : Nat) : n < n + 1 + 1 + 1 + 1 + 1 + 1 + 1 + 1 + 1 + 1 + 1 + 1 + 1 + 1 + 1 + 1 + 1 + 1 + 1 + 1 + 1 + 1 + 1 := by omega
@[simp, go_sem] theorem lt_up24 (n : Nat) : n < n + 1 + 1 + 1 + 1 + 1 + 1 + 1 + 1 + 1 + 1 + 1 + 1 + 1 + 1 + 1 + 1 + 1 + 1 + 1 + 1 + 1 + 1 + 1 + 1 := by omega

@[simp, go_sem] theorem ne_up1 (n : Nat) : (n = n + 1) = False := by simp only [eq_iff_iff, iff_false]; omega
@[simp, go_sem] theorem en_up1 (n : Nat) : (n + 1 = n) = False := by simp only [eq_iff_iff, iff_false]; omega
@[simp, go_sem] theorem ne_up2 (n : Nat) : (n = n + 1 + 1) = False := by simp only [eq_iff_iff, iff_false]; omega
@[simp, go_sem] theorem en_up2 (n : Nat) : (n + 1 + 1 = n) = False := by simp only [eq_iff_iff, iff_false]; omega
@[simp, go_sem] theorem ne_up3 (n : Nat) : (n = n + 1 + 1 + 1) = False := by simp only [eq_iff_iff, iff_false]; omega
@[simp, go_sem] theorem en_up3 (n : Nat) : (n + 1 + 1 + 1 = n) = False := by simp only [eq_iff_iff, iff_false]; omega
@[simp, go_sem] theorem ne_up4 (n : Nat) : (n = n + 1 + 1 + 1 + 1) = False := by simp only [eq_iff_iff, iff_false]; omega
@[simp, go_sem] theorem en_up4 (n : Nat) : (n + 1 + 1 + 1 + 1 = n) = False := by simp only [eq_iff_iff, iff_false]; omega
@[simp, go_sem] theorem ne_up5 (n : Nat) : (n = n + 1 + 1 + 1 + 1 + 1) = False := by simp only [eq_iff_iff, iff_false]; omega
@[simp, go_sem] theorem en_up5 (n : Nat) : (n + 1 + 1 + 1 + 1 + 1 = n) = False := by simp only [eq_iff_iff, iff_false]; omega
@[simp, go_sem] theorem ne_up6 (n : Nat) : (n = n + 1 + 1 + 1 + 1 + 1 + 1) = False := by simp only [eq_iff_iff, iff_false]; omega
@[simp, go_sem] theorem en_up6 (n : Nat) : (n + 1 + 1 + 1 + 1 + 1 + 1 = n) = False := by simp only [eq_iff_iff, iff_false]; omega
@[simp, go_sem] theorem ne_up7 (n : Nat) : (n = n + 1 + 1 + 1 + 1 + 1 + 1 + 1) = False := by simp only [eq_iff_iff, iff_false]; omega
@[simp, go_sem] theorem en_up7 (n : Nat) : (n + 1 + 1 + 1 + 1 + 1 + 1 + 1 = n) = False := by simp only [eq_iff_iff, iff_false]; omega
@[simp, go_sem] theorem ne_up8 (n : Nat) : (n = n + 1 + 1 + 1 + 1 + 1 + 1 + 1 + 1) = False := by simp only [eq_iff_iff, iff_false]; omega
@[simp, go_sem] theorem en_up8 (n : Nat) : (n + 1 + 1 + 1 + 1 + 1 + 1 + 1 + 1 = n) = False := by simp only [eq_iff_iff, iff_false]; omega
@[simp, go_sem] theorem ne_up9 (n : Nat) : (n = n + 1 + 1 + 1 + 1 + 1 + 1 + 1 + 1 + 1) = False := by simp only [eq_iff_iff, iff_false]; omega
@[simp, go_sem] theorem en_up9 (n : Nat) : (n + 1 + 1 + 1 + 1 + 1 + 1 + 1 + 1 + 1 = n) = False := by simp only [eq_iff_iff, iff_false]; omega
@[simp, go_sem] theorem ne_up10 (n : Nat) : (n = n + 1 + 1 + 1 + 1 + 1 + 1 + 1 + 1 + 1 + 1) = False := by simp only [eq_iff_iff, iff_false]; omega
@[simp, go_sem] theorem en_up10 (n : Nat) : (n + 1 + 1 + 1 + 1 + 1 + 1 + 1 + 1 + 1 + 1 = n) = False := by simp only [eq_iff_iff, iff_false]; omega
@[simp, go_sem] theorem ne_up11 (n : Nat) : (n = n + 1 + 1 + 1 + 1 + 1 + 1 + 1 + 1 + 1 + 1 + 1) = False := by simp only [eq_iff_iff, iff_false]; omega
@[simp, go_sem] theorem en_up11 (n : Nat) : (n + 1 + 1 + 1 + 1 + 1 + 1 + 1 + 1 + 1 + 1 + 1 = n) = False := by simp only [eq_iff_iff, iff_false]; omega
@[simp, go_sem] theorem ne_up12 (n : Nat) : (n = n + 1 + 1 + 1 + 1 + 1 + 1 + 1 + 1 + 1 + 1 + 1 + 1) = False := by simp only [eq_iff_iff, iff_false]; omega
@[simp, go_sem] theorem en_up12 (n : Nat) : (n + 1 + 1 + 1 + 1 + 1 + 1 + 1 + 1 + 1 + 1 + 1 + 1 = n) = False := by simp only [eq_iff_iff, iff_false]; omega
@[simp, go_sem] theorem ne_up13 (n : Nat) : (n = n + 1 + 1 + 1 + 1 + 1 + 1 + 1 + 1 + 1 + 1 + 1 + 1 + 1) = False := by simp only [eq_iff_iff, iff_false]; omega
@[simp, go_sem] theorem en_up13 (n : Nat) : (n + 1 + 1 + 1 + 1 + 1 + 1 + 1 + 1 + 1 + 1 + 1 + 1 + 1 = n) = False := by simp only [eq_iff_iff, iff_false]; omega
@[simp, go_sem] theorem ne_up14 (n : Nat) : (n = n + 1 + 1 + 1 + 1 + 1 + 1 + 1 + 1 + 1 + 1 + 1 + 1 + 1 + 1) = False := by simp only [eq_iff_iff, iff_false]; omega
@[simp, go_sem] theorem en_up14 (n : Nat) : (n + 1 + 1 + 1 + 1 + 1 + 1 + 1 + 1 + 1 + 1 + 1 + 1 + 1 + 1 = n) = False := by simp only [eq_iff_iff, iff_false]; omega
@[simp, go_sem] theorem ne_up15 (n : Nat) : (n = n + 1 + 1 + 1 + 1 + 1 + 1 + 1 + 1 + 1 + 1 + 1 + 1 + 1 + 1 + 1) = False := by simp only [eq_iff_iff, iff_false]; omega
@[simp, go_sem] theorem en_up15 (n : Nat) : (n + 1 + 1 + 1 + 1 + 1 + 1 + 1 + 1 + 1 + 1 + 1 + 1 + 1 + 1 + 1 = n) = False := by simp only [eq_iff_iff, iff_false]; omega
@[simp, go_sem] theorem ne_up16 (n : Nat) : (n = n + 1 + 1 + 1 + 1 + 1 + 1 + 1 + 1 + 1 + 1 + 1 + 1 + 1 + 1 + 1 + 1) = False := by simp only [eq_iff_iff, iff_false]; omega
@[simp, go_sem] theorem en_up16 (n : Nat) : (n + 1 + 1 + 1 + 1 + 1 + 1 + 1 + 1 + 1 + 1 + 1 + 1 + 1 + 1 + 1 + 1 = n) = False := by simp only [eq_iff_iff, iff_false]; omega
@[simp, go_sem] theorem ne_up17 (n : Nat) : (n = n + 1 + 1 + 1 + 1 + 1 + 1 + 1 + 1 + 1 + 1 + 1 + 1 + 1 + 1 + 1 + 1 + 1) = False := by simp only [eq_iff_iff, iff_false]; omega
@[simp, go_sem] theorem en_up17 (n : Nat) : (n + 1 + 1 + 1 + 1 + 1 + 1 + 1 + 1 + 1 + 1 + 1 + 1 + 1 + 1 + 1 + 1 + 1 = n) = False := by simp only [eq_iff_iff, iff_false]; omega
@[simp, go_sem] theorem ne_up18 (n : Nat) : (n = n + 1 + 1 + 1 + 1 + 1 + 1 + 1 + 1 + 1 + 1 + 1 + 1 + 1 + 1 + 1 + 1 + 1 + 1) = False := by simp only [eq_iff_iff, iff_false]; omega
@[simp, go_sem] theorem en_up18 (n : Nat) : (n + 1 + 1 + 1 + 1 + 1 + 1 + 1 + 1 + 1 + 1 + 1 + 1 + 1 + 1 + 1 + 1 + 1 + 1 = n) = False := by simp only [eq_iff_iff, iff_false]; omega
@[simp, go_sem] theorem ne_up19 (n : Nat) : (n = n + 1 + 1 + 1 + 1 + 1 + 1 + 1 + 1 + 1 + 1 + 1 + 1 + 1 + 1 + 1 + 1 + 1 + 1 + 1) = False := by simp only [eq_iff_iff, iff_false]; omega
@[simp, go_sem] theorem en_up19 (n : Nat) : (n + 1 + 1 + 1 + 1 + 1 + 1 + 1 + 1 + 1 + 1 + 1 + 1 + 1 + 1 + 1 + 1 + 1 + 1 + 1 = n) = False := by simp only [eq_iff_iff, iff_false]; omega
@[simp, go_sem] theorem ne_up20 (n : Nat) : (n = n + 1 + 1 + 1 + 1 + 1 + 1 + 1 + 1 + 1 + 1 + 1 + 1 + 1 + 1 + 1 + 1 + 1 + 1 + 1 + 1) = False := by simp only [eq_iff_iff, iff_false]; omega
@[simp, go_sem] theorem en_up20 (n : Nat) : (n + 1 + 1 + 1 + 1 + 1 + 1 + 1 + 1 + 1 + 1 + 1 + 1 + 1 + 1 + 1 + 1 + 1 + 1 + 1 + 1 = n) = False := by simp only [eq_iff_iff, iff_false]; omega
@[simp, go_sem] theorem ne_up21 (n : Nat) : (n = n + 1 + 1 + 1 + 1 + 1 + 1 + 1 + 1 + 1 + 1 + 1 + 1 + 1 + 1 + 1 + 1 + 1 + 1 + 1 + 1 + 1) = False := by simp only [eq_iff_iff, iff_false]; omega
@[simp, go_sem] theorem en_up21 (n : Nat) : (n + 1 + 1 + 1 + 1 + 1 + 1 + 1 + 1 + 1 + 1 + 1 + 1 + 1 + 1 + 1 + 1 + 1 + 1 + 1 + 1 + 1 = n) = False := by simp only [eq_iff_iff, iff_false]; omega
@[simp, go_sem] theorem ne_up22 (n : Nat) : (n = n + 1 + 1 + 1 + 1 + 1 + 1 + 1 + 1 + 1 + 1 + 1 + 1 + 1 + 1 + 1 + 1 + 1 + 1 + 1 + 1 + 1 + 1) = False := by simp only [eq_iff_iff, iff_false]; omega
@[simp, go_sem] theorem en_up22 (n : Nat) : (n + 1 + 1 + 1 + 1 + 1 + 1 + 1 + 1 + 1 + 1 + 1 + 1 + 1 + 1 + 1 + 1 + 1 + 1 + 1 + 1 + 1 + 1 = n) = False := by simp only [eq_iff_iff, iff_false]; omega
@[simp, go_sem] theorem ne_up23 (n : Nat) : (n = n + 1 + 1 + 1 + 1 + 1 + 1 + 1 + 1 + 1 + 1 + 1 + 1 + 1 + 1 + 1 + 1 + 1 + 1 + 1 + 1 + 1 + 1 + 1) = False := by simp only [eq_iff_iff, iff_false]; omega
@[simp, go_sem] theorem en_up23 (n : Nat) : (n + 1 + 1 + 1 + 1 + 1 + 1 + 1 + 1 + 1 + 1 + 1 + 1 + 1 + 1 + 1 + 1 + 1 + 1 + 1 + 1 + 1 + 1 + 1 = n) = False := by simp only [eq_iff_iff, iff_false]; omega
@[simp, go_sem] theorem ne_up24 (n : Nat) : (n = n + 1 + 1 + 1 + 1 + 1 + 1 + 1 + 1 + 1 + 1 + 1 + 1 + 1 + 1 + 1 + 1 + 1 + 1 + 1 + 1 + 1 + 1 + 1 + 1) = False := by simp only [eq_iff_iff, iff_false]; omega
@[simp, go_sem] theorem en_up24 (n : Nat) : (n + 1 + 1 + 1 + 1 + 1 + 1 + 1 + 1 + 1 + 1 + 1 + 1 + 1 + 1 + 1 + 1 + 1 + 1 + 1 + 1 + 1 + 1 + 1 + 1 = n) = False := by simp only [eq_iff_iff, iff_false]; omega
@[simp, go_sem] theorem lt_step {b n : Nat} (h : b < n) : b < n + 1 := Nat.lt_succ_of_lt h
attribute [go_sem] World.cell?_alloc_lt

/-- a struct handed back out of its block -/
theorem ret_blk {P : Program} {fn : Func} {p : Tmp} {ty : TypeId} (h : fn.results = #[.cell p ty]) {tmps : Array Value} {w : World} {b : Nat} {cs : Array Value} {t : TypeId} {d : TypeDesc} (hb : Blk w b cs t)
    (hp : tmps.getD p undef = .pointer (some ⟨b, 0, none⟩)) (hu : P.underlying ty = some d) (hd : (match d with | .struct _ | .array _ _ => true | _ => false) = true) (hi : (P.info? ty).map (·.size) = some cs.size) :
    (results fn tmps).run P w = .ok (.agg cs) w := results_cell_row h tmps w b t cs (0, 0) d hp hb hu hd hi

/-- a struct handed back out of its block, and a value beside it -/
theorem ret_blk_tmp {P : Program} {fn : Func} {p u : Tmp} {ty : TypeId} (h : fn.results = #[.cell p ty, .tmp u]) {tmps : Array Value} {w : World} {b : Nat} {cs : Array Value} {t : TypeId} {d : TypeDesc} (hb : Blk w b cs t)
    (hp : tmps.getD p undef = .pointer (some ⟨b, 0, none⟩)) (hu : P.underlying ty = some d) (hd : (match d with | .struct _ | .array _ _ => true | _ => false) = true) (hi : (P.info? ty).map (·.size) = some cs.size) :
    (results fn tmps).run P w = .ok (.tuple #[.agg cs, tmps.getD u undef]) w := by
  have hp' : tmps[p]?.getD undef = .pointer (some ⟨b, 0, none⟩) := by simpa using hp
  simp [results, h, hp', asAddr, run_loadVar_row w b t ty cs (0, 0) d hb hu hd hi]
theorem ret_tmp_blk {P : Program} {fn : Func} {p u : Tmp} {ty : TypeId} (h : fn.results = #[.tmp u, .cell p ty]) {tmps : Array Value} {w : World} {b : Nat} {cs : Array Value} {t : TypeId} {d : TypeDesc} (hb : Blk w b cs t)
    (hp : tmps.getD p undef = .pointer (some ⟨b, 0, none⟩)) (hu : P.underlying ty = some d) (hd : (match d with | .struct _ | .array _ _ => true | _ => false) = true) (hi : (P.info? ty).map (·.size) = some cs.size) :
    (results fn tmps).run P w = .ok (.tuple #[tmps.getD u undef, .agg cs]) w := by
  have hp' : tmps[p]?.getD undef = .pointer (some ⟨b, 0, none⟩) := by simpa using hp
  simp [results, h, hp', asAddr, run_loadVar_row w b t ty cs (0, 0) d hb hu hd hi]

theorem Blk.newAt {w : World} {b : Nat} (h : b = w.heap.size) (c : Array Value) (t : TypeId) : Blk (w.alloc (.cells c t)) b c t := by subst h; exact Blk.new w c t
theorem blk_alloc {w : World} {o : Obj} {b : Nat} {c : Array Value} {t : TypeId} : Blk (w.alloc o) b c t ↔ (b = w.heap.size ∧ o = .cells c t (0, 0)) ∨ Blk w b c t := by
  unfold Blk
  show (w.heap.push o)[b]? = _ ↔ _
  rw [Array.getElem?_push]
  by_cases h : b = w.heap.size
  · subst h; simp
  · simp [h]

/-- A pointer to a number of kind k and type T that is set, or nil for 0. -/
def NumP (T : TypeId) (k : IntKind) (w : World) (p : Option Addr) (n : Int) : Prop := (p = none ∧ n = 0) ∨ ∃ b, p = some ⟨b, 0, none⟩ ∧ Blk w b #[.int k n] T
theorem NumP.ext {T : TypeId} {k : IntKind} {w w' : World} {p : Option Addr} {n : Int} (h : NumP T k w p n) (e : Ext w w') : NumP T k w' p n := h.imp id fun ⟨b, hp, hb⟩ => ⟨b, hp, hb.ext e⟩
theorem NumP.set {T : TypeId} {k : IntKind} {w : World} {b : Nat} {n : Int} (h : Blk w b #[.int k n] T) : NumP T k w (some ⟨b, 0, none⟩) n := .inr ⟨b, rfl, h⟩
theorem NumP.nil {T : TypeId} {k : IntKind} {w : World} : NumP T k w none 0 := .inl ⟨rfl, rfl⟩

theorem World.grownBy_of_ext {w w' : World} {row : Option Nat} (h : Ext w w') : w.grownBy w' row := ⟨h.os, h.tape, h.output, h.size, fun k hk _ => h.block k hk⟩

/-- Every block of one of the types S holds what it held. -/
def Keep (S : List TypeId) (w w' : World) : Prop := ∀ (b : Nat) (c : Array Value) (t : TypeId) (fr : Nat × Nat), t ∈ S → w.heap[b]? = some (.cells c t fr) → w'.heap[b]? = some (.cells c t fr)

theorem Keep.refl (S : List TypeId) (w : World) : Keep S w w := fun _ _ _ _ _ h => h
theorem Keep.trans {S : List TypeId} {a b c : World} (h : Keep S a b) (k : Keep S b c) : Keep S a c := fun i cs t fr ht hb => k i cs t fr ht (h i cs t fr ht hb)
theorem Keep.sub {S S' : List TypeId} {a b : World} (h : Keep S a b) (hs : ∀ t, t ∈ S' → t ∈ S) : Keep S' a b := fun i cs t fr ht hb => h i cs t fr (hs t ht) hb
theorem Ext.keep {a b : World} (h : Ext a b) (S : List TypeId) : Keep S a b := fun i cs t fr _ hb => (h.block i (lt_of_block hb)).trans hb
theorem Chg.keep {F : Nat → Prop} {a b : World} (h : Chg F a b) {S : List TypeId} (hF : ∀ k, k < a.heap.size → F k → ∃ c t fr, a.heap[k]? = some (.cells c t fr) ∧ t ∉ S) : Keep S a b := fun i cs t fr ht hb => by
  have hlt := lt_of_block hb
  by_cases hi : F i
  · obtain ⟨c', t', fr', h1, h2⟩ := hF i hlt hi
    rw [hb] at h1
    simp at h1
    exact absurd ht (h1.2.1 ▸ h2)
  · exact (h.block i hlt hi).trans hb
theorem Keep.set {S : List TypeId} {w : World} {b : Nat} {c : Array Value} {t : TypeId} (h : Blk w b c t) (ht : t ∉ S) (i : Nat) (v : Value) : Keep S w (w.setCell ⟨b, i, none⟩ v) := fun j cs t' fr ht' hb => by
  have hne : j ≠ b := by
    intro e; subst e
    unfold Blk at h
    rw [h] at hb
    simp at hb
    exact ht (hb.2.1 ▸ ht')
  exact (heap_setCell_other w ⟨b, i, none⟩ j v hne).trans hb
theorem Keep.alloc {S : List TypeId} {a b : World} (h : Keep S a b) (o : Obj) : Keep S a (b.alloc o) := h.trans (((Ext.refl b).alloc o).keep S)
theorem Keep.drew {S : List TypeId} {a b : World} (h : Keep S a b) : Keep S a b.drew := h
theorem Keep.drewN {S : List TypeId} {a b : World} (h : Keep S a b) (n : Nat) : Keep S a (b.drewN n) := h
theorem Keep.transE {S : List TypeId} {a b c : World} (h : Keep S a b) (e : Ext b c) : Keep S a c := h.trans (e.keep S)
/-- the block b is of a type that is not among S -/
def Tof (w : World) (b : Nat) (t : TypeId) : Prop := ∃ c, Blk w b c t
theorem Tof.ext {w w' : World} {b : Nat} {t : TypeId} (h : Tof w b t) (e : Ext w w') : Tof w' b t := h.imp fun c hc => hc.ext e
theorem Tof.set {w : World} {b : Nat} {t : TypeId} (h : Tof w b t) (p i : Nat) (v : Value) : Tof (w.setCell ⟨p, i, none⟩ v) b t := by
  obtain ⟨c, hc⟩ := h
  by_cases hp : b = p
  · subst hp
    exact ⟨_, hc.set i v⟩
  · exact ⟨c, hc.setOther hp v⟩
theorem Tof.alloc {w : World} {b : Nat} {t : TypeId} (h : Tof w b t) (o : Obj) : Tof (w.alloc o) b t := h.imp fun c hc => hc.alloc o
theorem Tof.new (w : World) (c : Array Value) (t : TypeId) : Tof (w.alloc (.cells c t)) w.heap.size t := ⟨c, Blk.new w c t⟩
theorem Tof.newAt {w : World} {b : Nat} (h : b = w.heap.size) (c : Array Value) (t : TypeId) : Tof (w.alloc (.cells c t)) b t := by subst h; exact Tof.new w c t
theorem Tof.drew {w : World} {b : Nat} {t : TypeId} (h : Tof w b t) : Tof w.drew b t := h
theorem Tof.drewN {w : World} {b : Nat} {t : TypeId} (h : Tof w b t) (n : Nat) : Tof (w.drewN n) b t := h
theorem Keep.setB {S : List TypeId} {a b : World} (h : Keep S a b) {p : Nat} {t : TypeId} (hb : Tof b p t) (ht : t ∉ S) (i : Nat) (v : Value) : Keep S a (b.setCell ⟨p, i, none⟩ v) := by
  obtain ⟨c, hc⟩ := hb
  exact h.trans (Keep.set hc ht i v)
/-- an append or a store into a row of the call's own, of a type that is not among S -/
theorem Keep.grown {S : List TypeId} {w w' : World} {base : Nat} {e : TypeId} {size n : Nat} {v : Value} {xs : List Value} (hown : w.ownsRow base e size v n xs) (hg : w.grownBy w' v.ownBlock) (he : e ∉ S) : Keep S w w' := fun j cs t fr ht hb => by
  refine (hg.block j (lt_of_block hb) ?_).trans hb
  intro hj
  rcases hown.2 with ⟨rfl, _⟩ | ⟨g, cap, cur, rfl, _, hgb, _⟩
  · simp [Value.ownBlock] at hj
  · simp [Value.ownBlock] at hj
    subst hj
    rw [hgb] at hb
    simp at hb
    exact he (hb.2.1 ▸ ht)
theorem Keep.blk {S : List TypeId} {w w' : World} (h : Keep S w w') {b : Nat} {c : Array Value} {t : TypeId} (hb : Blk w b c t) (ht : t ∈ S) : Blk w' b c t := h b c t _ ht hb
theorem NumP.keep {T : TypeId} {k : IntKind} {w w' : World} {p : Option Addr} {n : Int} (h : NumP T k w p n) {S : List TypeId} (e : Keep S w w') (hT : T ∈ S) : NumP T k w' p n := h.imp id fun ⟨b, hp, hb⟩ => ⟨b, hp, e.blk hb hT⟩

/-- Two lists of one length, pair by pair. -/
def All2 {α β : Type} (R : α → β → Prop) (xs : List α) (ys : List β) : Prop := xs.length = ys.length ∧ ∀ (i : Nat) (x : α) (y : β), xs[i]? = some x → ys[i]? = some y → R x y
theorem All2.nil {α β : Type} (R : α → β → Prop) : All2 R [] [] := ⟨rfl, fun i x y h => by simp at h⟩
theorem All2.imp {α β : Type} {R R' : α → β → Prop} {xs : List α} {ys : List β} (h : All2 R xs ys) (hr : ∀ x y, R x y → R' x y) : All2 R' xs ys := ⟨h.1, fun i x y hx hy => hr x y (h.2 i x y hx hy)⟩
theorem All2.snoc {α β : Type} {R : α → β → Prop} {xs : List α} {ys : List β} {x : α} {y : β} (h : All2 R xs ys) (hr : R x y) : All2 R (xs ++ [x]) (ys ++ [y]) := by
  refine ⟨by simp [h.1], fun i a b ha hb => ?_⟩
  by_cases hi : i < xs.length
  · rw [List.getElem?_append_left hi] at ha
    rw [List.getElem?_append_left (by rw [← h.1]; exact hi)] at hb
    exact h.2 i a b ha hb
  · rw [List.getElem?_append_right (by omega)] at ha
    rw [List.getElem?_append_right (by rw [← h.1]; omega)] at hb
    rw [← h.1] at hb
    by_cases h0 : i - xs.length = 0
    · rw [h0] at ha hb
      simp at ha hb
      subst ha hb
      exact hr
    · have : 1 ≤ i - xs.length := by omega
      simp [List.getElem?_eq_none (show ([x] : List α).length ≤ i - xs.length by simpa using this)] at ha
theorem All2.append {α β : Type} {R : α → β → Prop} {xs xs' : List α} {ys ys' : List β} (h : All2 R xs ys) (h' : All2 R xs' ys') : All2 R (xs ++ xs') (ys ++ ys') := by
  refine ⟨by simp [h.1, h'.1], fun i a b ha hb => ?_⟩
  by_cases hi : i < xs.length
  · rw [List.getElem?_append_left hi] at ha
    rw [List.getElem?_append_left (by rw [← h.1]; exact hi)] at hb
    exact h.2 i a b ha hb
  · rw [List.getElem?_append_right (by omega)] at ha
    rw [List.getElem?_append_right (by rw [← h.1]; omega)] at hb
    rw [← h.1] at hb
    exact h'.2 _ a b ha hb
theorem All2.drop {α β : Type} {R : α → β → Prop} {xs : List α} {ys : List β} (h : All2 R xs ys) (n : Nat) : All2 R (xs.drop n) (ys.drop n) :=
  ⟨by simp [h.1], fun i a b ha hb => by rw [List.getElem?_drop] at ha hb; exact h.2 _ a b ha hb⟩
theorem All2.take {α β : Type} {R : α → β → Prop} {xs : List α} {ys : List β} (h : All2 R xs ys) (n : Nat) : All2 R (xs.take n) (ys.take n) := by
  refine ⟨by simp [h.1], fun i a b ha hb => ?_⟩
  rw [List.getElem?_take] at ha hb
  split at ha
  · rename_i hi
    rw [if_pos hi] at hb
    exact h.2 i a b ha hb
  · cases ha

/-- A pointer to a number that is set. -/
def SetP (T : TypeId) (k : IntKind) (w : World) (p : Option Addr) (n : Int) : Prop := ∃ b, p = some ⟨b, 0, none⟩ ∧ Blk w b #[.int k n] T
theorem SetP.keep {T : TypeId} {k : IntKind} {w w' : World} {p : Option Addr} {n : Int} (h : SetP T k w p n) {S : List TypeId} (e : Keep S w w') (hT : T ∈ S) : SetP T k w' p n := by
  obtain ⟨b, hp, hb⟩ := h
  exact ⟨b, hp, e.blk hb hT⟩
theorem SetP.num {T : TypeId} {k : IntKind} {w : World} {p : Option Addr} {n : Int} (h : SetP T k w p n) : NumP T k w p n := .inr h

/-- A row of bytes that reads as s: nil for the empty one, or not. -/
def BytesP (T : TypeId) (w : World) (v : Value) (s : ByteArray) : Prop :=
  (v = .slice none 0 0 ∧ s.size = 0) ∨ ∃ (b o cap : Nat) (c : Array Value) (fr : Nat × Nat), v = .slice (some ⟨b, o, none⟩) s.size cap ∧ w.heap[b]? = some (.cells c T fr) ∧
    ∀ j (hj : j < s.size), c[o + j]? = some (.int .u8 ((s.data.toList.getD j 0).toNat : Int))
theorem BytesP.keep {T : TypeId} {w w' : World} {v : Value} {s : ByteArray} (h : BytesP T w v s) {S : List TypeId} (e : Keep S w w') (hT : T ∈ S) : BytesP T w' v s := by
  rcases h with h | ⟨b, o, cap, c, fr, hv, hb, hc⟩
  · exact .inl h
  · exact .inr ⟨b, o, cap, c, fr, hv, e b c T fr hT hb, hc⟩

theorem BytesP.shape {T : TypeId} {w : World} {v : Value} {s : ByteArray} (h : BytesP T w v s) : ∃ a c, v = .slice a s.size c := by
  rcases h with ⟨h, h0⟩ | ⟨b, o, cap, c, fr, hv, hb, hc⟩
  · exact ⟨none, 0, by rw [h0]; exact h⟩
  · exact ⟨_, _, hv⟩
theorem ownsRow_shape {w : World} {base : Nat} {e : TypeId} {size n : Nat} {v : Value} {xs : List Value} (h : w.ownsRow base e size v n xs) : ∃ a c, v = .slice a n c := by
  rcases h.2 with ⟨h1, h2⟩ | ⟨g, cap, cur, h1, _⟩
  · exact ⟨none, 0, by rw [h2]; exact h1⟩
  · exact ⟨_, _, h1⟩

theorem all_false_of {α : Type} {p : α → Bool} {l : List α} {k : Nat} {y : α} (h : l[k]? = some y) (hp : p y = false) : l.all p = false := by
  rw [List.all_eq_false]
  exact ⟨y, List.mem_of_getElem? h, by simp [hp]⟩

/-- A plain entry: term, index, kind, data. -/
structure Ent where
  term : Int
  index : Int
  kind : Int
  data : ByteArray
deriving DecidableEq

end Go.Proofs.Ythfdhamencefiaa
