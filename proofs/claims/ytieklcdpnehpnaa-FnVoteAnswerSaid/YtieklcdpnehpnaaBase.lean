/-
  What all texts of this seat lean on: blocks known whole, frames. No program in sight.
-/
import Derived.WalkKit
import Derived.WalkSpells
import Derived.WalkLawsBesides
import Derived.Deep.WholeRow
import Derived.Lib.Hide
namespace Go.Proofs.Ytieklcdpnehpnaa
open Go.RowKit

/-- Block b holds the cells c of element type t, and may be written. -/
def Blk (w : World) (b : Nat) (c : Array Value) (t : TypeId) : Prop := w.heap[b]? = some (.cells c t (0, 0))

/-- Nothing that was there has turned. -/
abbrev Ext (w w' : World) : Prop := Below w.heap.size w w'

/-- Of what was there only the blocks that F names may have turned. -/
structure Chg (F : Nat → Prop) (w w' : World) : Prop where
  os : w'.os = w.os
  tape : w'.tape = w.tape
  output : w'.output = w.output
  size : w.heap.size ≤ w'.heap.size
  block : ∀ k, k < w.heap.size → ¬ F k → w'.heap[k]? = w.heap[k]?

theorem Blk.lt {w : World} {b : Nat} {c : Array Value} {t : TypeId} (h : Blk w b c t) : b < w.heap.size := lt_of_block h
theorem Blk.cell {w : World} {b : Nat} {c : Array Value} {t : TypeId} (h : Blk w b c t) (i : Nat) : w.cell? ⟨b, i, none⟩ = c[i]? := cell_of_row w b i c t _ h
theorem Blk.free {w : World} {b : Nat} {c : Array Value} {t : TypeId} (h : Blk w b c t) (i : Nat) : w.frozen? ⟨b, i, none⟩ = false := frozen_of_row w b i c t h
theorem Blk.ne {w : World} {b b' : Nat} {c c' : Array Value} {t t' : TypeId} (h : Blk w b c t) (h' : Blk w b' c' t') (ht : t ≠ t') : b ≠ b' := by
  intro e; subst e
  unfold Blk at h h'
  rw [h] at h'
  simp at h'
  exact ht h'.2
theorem Blk.ext {w w' : World} {b : Nat} {c : Array Value} {t : TypeId} (h : Blk w b c t) (e : Ext w w') : Blk w' b c t := (e.block b h.lt).trans h
theorem Blk.chg {w w' : World} {F : Nat → Prop} {b : Nat} {c : Array Value} {t : TypeId} (h : Blk w b c t) (e : Chg F w w') (hb : ¬ F b) : Blk w' b c t := (e.block b h.lt hb).trans h
theorem Blk.alloc {w : World} {b : Nat} {c : Array Value} {t : TypeId} (h : Blk w b c t) (o : Obj) : Blk (w.alloc o) b c t := (Below.heap_alloc w o b h.lt).trans h
theorem Blk.new (w : World) (c : Array Value) (t : TypeId) : Blk (w.alloc (.cells c t)) w.heap.size c t := heap_alloc_new w _
theorem Blk.drew {w : World} {b : Nat} {c : Array Value} {t : TypeId} (h : Blk w b c t) : Blk w.drew b c t := h
theorem Blk.drewN {w : World} {b : Nat} {c : Array Value} {t : TypeId} (h : Blk w b c t) (n : Nat) : Blk (w.drewN n) b c t := h
theorem Blk.set {w : World} {b : Nat} {c : Array Value} {t : TypeId} (h : Blk w b c t) (i : Nat) (v : Value) : Blk (w.setCell ⟨b, i, none⟩ v) b (c.setIfInBounds i v) t := heap_setCell_same w b i c t v h
theorem Blk.setOther {w : World} {b : Nat} {c : Array Value} {t : TypeId} (h : Blk w b c t) {a : Addr} (hne : b ≠ a.block) (v : Value) : Blk (w.setCell a v) b c t := (heap_setCell_other w a b v hne).trans h
theorem Blk.same {w : World} {b : Nat} {c c' : Array Value} {t t' : TypeId} (h : Blk w b c t) (h' : Blk w b c' t') : c = c' ∧ t = t' := by
  unfold Blk at h h'
  rw [h] at h'
  simpa using h'

theorem Ext.refl (w : World) : Ext w w := Below.refl _ _
theorem Ext.trans {a b c : World} (h : Ext a b) (k : Ext b c) : Ext a c := Below.trans h (k.mono h.size)
theorem Ext.alloc {a b : World} (h : Ext a b) (o : Obj) : Ext a (b.alloc o) := Below.alloc h h.size o
theorem Ext.drew {a b : World} (h : Ext a b) : Ext a b.drew := Below.drew h
theorem Ext.drewN {a b : World} (h : Ext a b) (n : Nat) : Ext a (b.drewN n) := ⟨h.os, h.tape, h.output, h.size, h.block⟩
/-- a store into a block that was not there -/
theorem Ext.set {a b : World} (h : Ext a b) {p : Addr} (hp : a.heap.size ≤ p.block) (v : Value) : Ext a (b.setCell p v) := Below.setCell h hp v
theorem Ext.grown {a b c : World} {row : Option Nat} (h : Ext a b) (hg : b.grownBy c row) (hr : ∀ k, row = some k → a.heap.size ≤ k) : Ext a c := Below.grown h hg h.size hr

theorem Chg.refl (F : Nat → Prop) (w : World) : Chg F w w := ⟨rfl, rfl, rfl, Nat.le_refl _, fun _ _ _ => rfl⟩
theorem Chg.trans {F : Nat → Prop} {a b c : World} (h : Chg F a b) (k : Chg F b c) : Chg F a c :=
  ⟨k.os.trans h.os, k.tape.trans h.tape, k.output.trans h.output, Nat.le_trans h.size k.size, fun i hi hF => (k.block i (Nat.lt_of_lt_of_le hi h.size) hF).trans (h.block i hi hF)⟩
theorem Chg.mono {F G : Nat → Prop} {a b : World} (h : Chg F a b) (hFG : ∀ k, k < a.heap.size → F k → G k) : Chg G a b :=
  ⟨h.os, h.tape, h.output, h.size, fun i hi hG => h.block i hi fun hF => hG (hFG i hi hF)⟩
theorem Chg.of_ext {F : Nat → Prop} {a b : World} (h : Ext a b) : Chg F a b := ⟨h.os, h.tape, h.output, h.size, fun i hi _ => h.block i hi⟩
theorem Chg.ext {F : Nat → Prop} {a b : World} (h : Chg F a b) (hF : ∀ k, k < a.heap.size → ¬ F k) : Ext a b := ⟨h.os, h.tape, h.output, h.size, fun i hi => h.block i hi (hF i hi)⟩
theorem Chg.set {F : Nat → Prop} {a b : World} (h : Chg F a b) {p : Addr} (hp : F p.block ∨ a.heap.size ≤ p.block) (v : Value) : Chg F a (b.setCell p v) :=
  ⟨h.os, h.tape, h.output, by simp [World.setCell]; exact h.size, fun k hk hF => (Below.heap_setCell b p v k (by
    rcases hp with hp | hp
    · intro e; subst e; exact hF hp
    · omega)).trans (h.block k hk hF)⟩
theorem Chg.alloc {F : Nat → Prop} {a b : World} (h : Chg F a b) (o : Obj) : Chg F a (b.alloc o) := h.trans (Chg.of_ext ((Ext.refl _).alloc o))
theorem Chg.drew {F : Nat → Prop} {a b : World} (h : Chg F a b) : Chg F a b.drew := ⟨h.os, h.tape, h.output, h.size, h.block⟩
theorem Chg.drewN {F : Nat → Prop} {a b : World} (h : Chg F a b) (n : Nat) : Chg F a (b.drewN n) := ⟨h.os, h.tape, h.output, h.size, h.block⟩

/-- What the walk reads behind a call that leaves all that was there: each old cell, each old mark. -/
theorem Ext.reads {w w' : World} (h : Ext w w') : (∀ b o, b < w.heap.size → w'.cell? ⟨b, o, none⟩ = w.cell? ⟨b, o, none⟩) ∧ (∀ b o, b < w.heap.size → w'.frozen? ⟨b, o, none⟩ = w.frozen? ⟨b, o, none⟩) :=
  ⟨fun b o hb => Below.cell h (p := ⟨b, o, none⟩) hb, fun b o hb => Below.frozen h (p := ⟨b, o, none⟩) hb⟩

/-! A number is below itself and some more: for the walk's own simp. -/
@[simp, go_sem] theorem lt_up2 (n : Nat) : n < n + 1 + 1 := by omega
@[simp, go_sem] theorem lt_up3 (n : Nat) : n < n + 1 + 1 + 1 := by omega
@[simp, go_sem] theorem lt_up4 (n : Nat) : n < n + 1 + 1 + 1 + 1 := by omega
@[simp, go_sem] theorem lt_up5 (n : Nat) : n < n + 1 + 1 + 1 + 1 + 1 := by omega
@[simp, go_sem] theorem lt_up6 (n : Nat) : n < n + 1 + 1 + 1 + 1 + 1 + 1 := by omega
@[simp, go_sem] theorem lt_up7 (n : Nat) : n < n + 1 + 1 + 1 + 1 + 1 + 1 + 1 := by omega
@[simp, go_sem] theorem lt_up8 (n : Nat) : n < n + 1 + 1 + 1 + 1 + 1 + 1 + 1 + 1 := by omega
@[simp, go_sem] theorem lt_up9 (n : Nat) : n < n + 1 + 1 + 1 + 1 + 1 + 1 + 1 + 1 + 1 := by omega
@[simp, go_sem] theorem lt_up10 (n : Nat) : n < n + 1 + 1 + 1 + 1 + 1 + 1 + 1 + 1 + 1 + 1 := by omega
@[simp, go_sem] theorem lt_up11 (n : Nat) : n < n + 1 + 1 + 1 + 1 + 1 + 1 + 1 + 1 + 1 + 1 + 1 := by omega
@[simp, go_sem] theorem lt_up12 (n : Nat) : n < n + 1 + 1 + 1 + 1 + 1 + 1 + 1 + 1 + 1 + 1 + 1 + 1 := by omega
@[simp, go_sem] theorem lt_up13 (n : Nat) : n < n + 1 + 1 + 1 + 1 + 1 + 1 + 1 + 1 + 1 + 1 + 1 + 1 + 1 := by omega
@[simp, go_sem] theorem lt_up14 (n : Nat) : n < n + 1 + 1 + 1 + 1 + 1 + 1 + 1 + 1 + 1 + 1 + 1 + 1 + 1 + 1 := by omega
@[simp, go_sem] theorem lt_up15 (n : Nat) : n < n + 1 + 1 + 1 + 1 + 1 + 1 + 1 + 1 + 1 + 1 + 1 + 1 + 1 + 1 + 1 := by omega
@[simp, go_sem] theorem lt_up16 (n : Nat) : n < n + 1 + 1 + 1 + 1 + 1 + 1 + 1 + 1 + 1 + 1 + 1 + 1 + 1 + 1 + 1 + 1 := by omega
@[simp, go_sem] theorem lt_up17 (n : Nat) : n < n + 1 + 1 + 1 + 1 + 1 + 1 + 1 + 1 + 1 + 1 + 1 + 1 + 1 + 1 + 1 + 1 + 1 := by omega
@[simp, go_sem] theorem lt_up18 (n : Nat) : n < n + 1 + 1 + 1 + 1 + 1 + 1 + 1 + 1 + 1 + 1 + 1 + 1 + 1 + 1 + 1 + 1 + 1 + 1 := by omega
@[simp, go_sem] theorem lt_up19 (n : Nat) : n < n + 1 + 1 + 1 + 1 + 1 + 1 + 1 + 1 + 1 + 1 + 1 + 1 + 1 + 1 + 1 + 1 + 1 + 1 + 1 := by omega
@[simp, go_sem] theorem lt_up20 (n : Nat) : n < n + 1 + 1 + 1 + 1 + 1 + 1 + 1 + 1 + 1 + 1 + 1 + 1 + 1 + 1 + 1 + 1 + 1 + 1 + 1 + 1 := by omega
@[simp, go_sem] theorem lt_up21 (n : Nat) : n < n + 1 + 1 + 1 + 1 + 1 + 1 + 1 + 1 + 1 + 1 + 1 + 1 + 1 + 1 + 1 + 1 + 1 + 1 + 1 + 1 + 1 := by omega
@[simp, go_sem] theorem lt_up22 (n : Nat) : n < n + 1 + 1 + 1 + 1 + 1 + 1 + 1 + 1 + 1 + 1 + 1 + 1 + 1 + 1 + 1 + 1 + 1 + 1 + 1 + 1 + 1 + 1 := by omega
@[simp, go_sem] theorem lt_up23 (n : Nat) : n < n + 1 + 1 + 1 + 1 + 1 + 1 + 1 + 1 + 1 + 1 + 1 + 1 + 1 + 1 + 1 + 1 + 1 + 1 + 1 + 1 + 1 + 1 + 1 := by omega
@[simp, go_sem] theorem lt_up24 (n : Nat) : n < n + 1 + 1 + 1 + 1 + 1 + 1 + 1 + 1 + 1 + 1 + 1 + 1 + 1 + 1 + 1 + 1 + 1 + 1 + 1 + 1 + 1 + 1 + 1 + 1 := by omega

theorem blk_alloc {w : World} {o : Obj} {b : Nat} {c : Array Value} {t : TypeId} : Blk (w.alloc o) b c t ↔ (b = w.heap.size ∧ o = .cells c t (0, 0)) ∨ Blk w b c t := by
  unfold Blk
  show (w.heap.push o)[b]? = _ ↔ _
  rw [Array.getElem?_push]
  by_cases h : b = w.heap.size
  · subst h; simp
  · simp [h]

/-- A pointer to a number of kind k and type T that is set, or nil for 0. -/
def NumP (T : TypeId) (k : IntKind) (w : World) (p : Option Addr) (n : Int) : Prop := (p = none ∧ n = 0) ∨ ∃ b, p = some ⟨b, 0, none⟩ ∧ Blk w b #[.int k n] T
theorem NumP.ext {T : TypeId} {k : IntKind} {w w' : World} {p : Option Addr} {n : Int} (h : NumP T k w p n) (e : Ext w w') : NumP T k w' p n := h.imp id fun ⟨b, hp, hb⟩ => ⟨b, hp, hb.ext e⟩
theorem NumP.set {T : TypeId} {k : IntKind} {w : World} {b : Nat} {n : Int} (h : Blk w b #[.int k n] T) : NumP T k w (some ⟨b, 0, none⟩) n := .inr ⟨b, rfl, h⟩
theorem NumP.nil {T : TypeId} {k : IntKind} {w : World} : NumP T k w none 0 := .inl ⟨rfl, rfl⟩

/-- A plain entry: term, index, kind, data. -/
structure Ent where
  term : Int
  index : Int
  kind : Int
  data : ByteArray

end Go.Proofs.Ytieklcdpnehpnaa
