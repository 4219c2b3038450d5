/-
  Plain data that came in (numbers, bools, strings, slices, structs of these, nested as they may be): from the form's reading to a term of Lean, by the type's shape. Over any program.
-/
import Derived.WalkKit
import Derived.ProofKit
import Derived.OpenShut
import Derived.Lib.SmallJoins
import Derived.Test.YtieklcdpnehpnaaBase
set_option linter.unusedVariables false
namespace Go.Proofs.Ytieklcdpnehpnaa
open Go.RowKit Go.ChangeShapes Go.WideShapes Go.ChangeAt

/-- The shapes of plain data; a struct is a row of pairs that ends in 'unit'. -/
inductive Sh where
  | int (k : IntKind)
  | bool
  | str
  | slice (e : Sh)
  | unit
  | pair (a b : Sh)

/-- What data of a shape are in Lean. -/
@[reducible] def Sh.Ty : Sh → Type
  | .int _ => Int
  | .bool => Bool
  | .str => ByteArray
  | .slice e => List e.Ty
  | .unit => Unit
  | .pair a b => a.Ty × b.Ty

/-- How many cells. -/
def Sh.size : Sh → Nat
  | .int _ | .bool | .str | .slice _ => 1
  | .unit => 0
  | .pair a b => a.size + b.size

/-- The cells 'cs' read as the data 'x' in the world w. -/
def Sees (w : World) : (s : Sh) → List Value → s.Ty → Prop
  | .int k, cs, n => cs = [.int k n] ∧ (Lit.int k n).wf = true
  | .bool, cs, b => cs = [.bool b]
  | .str, cs, s => cs = [.string s] ∧ s.size ≤ maxLen
  | .slice e, cs, l => ∃ a len cap, cs = [.slice a len cap] ∧ l.length = len ∧ len ≤ cap ∧ cap ≤ maxLen ∧ (a = none → len = 0 ∧ cap = 0) ∧
      ∀ i x, l[i]? = some x → ∃ b off cs', a = some ⟨b, off, none⟩ ∧ cs'.length = e.size ∧ (∀ j v, cs'[j]? = some v → w.cell? ⟨b, off + i * e.size + j, none⟩ = some v) ∧ Sees w e cs' x
  | .unit, cs, _ => cs = []
  | .pair a b, cs, x => ∃ c1 c2, cs = c1 ++ c2 ∧ Sees w a c1 x.1 ∧ Sees w b c2 x.2

theorem Sees.length {w : World} : ∀ {s : Sh} {cs : List Value} {x : s.Ty}, Sees w s cs x → cs.length = s.size
  | .int _, _, _, h => by simp only [Sees] at h; simp [h.1, Sh.size]
  | .bool, _, _, h => by simp only [Sees] at h; simp [h, Sh.size]
  | .str, _, _, h => by simp only [Sees] at h; simp [h.1, Sh.size]
  | .slice _, _, _, h => by simp only [Sees] at h; obtain ⟨_, _, _, rfl, _⟩ := h; simp [Sh.size]
  | .unit, _, _, h => by simp only [Sees] at h; simp [h, Sh.size]
  | .pair _ _, _, _, h => by
    simp only [Sees] at h
    obtain ⟨c1, c2, rfl, h1, h2⟩ := h
    simp [Sh.size, h1.length, h2.length]

/-- What was read stays so while nothing old turns. -/
theorem Sees.ext {w w' : World} (e : Ext w w') : ∀ {s : Sh} {cs : List Value} {x : s.Ty}, Sees w s cs x → Sees w' s cs x
  | .int _, _, _, h => h
  | .bool, _, _, h => h
  | .str, _, _, h => h
  | .slice _, _, _, h => by
    simp only [Sees] at h ⊢
    obtain ⟨a, len, cap, hc, hl, h1, h2, h3, h4⟩ := h
    refine ⟨a, len, cap, hc, hl, h1, h2, h3, fun i x hx => ?_⟩
    obtain ⟨b, off, cs', ha, hlen, hcell, hs⟩ := h4 i x hx
    exact ⟨b, off, cs', ha, hlen, fun j v hv => by
      have := hcell j v hv
      rw [Below.cell e (World.block_lt_of_cell? w _ this)]; exact this, hs.ext e⟩
  | .unit, _, _, h => h
  | .pair _ _, _, _, h => by
    simp only [Sees] at h ⊢
    obtain ⟨c1, c2, hc, h1, h2⟩ := h
    exact ⟨c1, c2, hc, h1.ext e, h2.ext e⟩

/-- A type (or the rest of a struct's fields, from an offset on) has a shape. -/
def Sh.fits (P : Program) : Sh → Sum TypeId (List Field × Nat) → Bool
  | .int k, .inl t => (match P.underlying t with | some (.int k') => k == k' | _ => false)
  | .bool, .inl t => (match P.underlying t with | some .bool => true | _ => false)
  | .str, .inl t => (match P.underlying t with | some .string => true | _ => false)
  | .slice e, .inl t => (match P.underlying t with | some (.slice te) => P.cellsOf te == e.size && decide (0 < e.size) && e.fits P (.inl te) | _ => false)
  | .unit, .inl t => (match P.underlying t with | some (.struct fs) => fs.size == 0 && P.cellsOf t == 0 | _ => false)
  | .pair a b, .inl t => (match P.underlying t with
    | some (.struct fs) => P.cellsOf t == (Sh.pair a b).size && (match fs.toList with
      | f :: r => f.offset == 0 && P.cellsOf f.type == a.size && a.fits P (.inl f.type) && b.fits P (.inr (r, a.size))
      | [] => false)
    | _ => false)
  | .unit, .inr (fs, _) => fs.isEmpty
  | .pair a b, .inr (fs, off) => (match fs with
    | f :: r => f.offset == off && P.cellsOf f.type == a.size && a.fits P (.inl f.type) && b.fits P (.inr (r, off + a.size))
    | [] => false)
  | _, _ => false

section
variable {H : Type} {enc : TypeId × Value → H} {P : Program} {w : World} {base : Nat} {sp : Nat → Bool} {held : Bool}

theorem cells?_row {a : Addr} {n : Nat} {cs : List Value} (hn : 0 < n) (h : w.cells? base a n = some cs) :
    ∃ b off, a = ⟨b, off, none⟩ ∧ cs.length = n ∧ ∀ j v, cs[j]? = some v → w.cell? ⟨b, off + j, none⟩ = some v := by
  unfold World.cells? at h
  split at h
  · have hl := mapM_some_length h
    have hg : ∀ j, j < n → w.cell? (a.add j) = cs[j]? := fun j hj => mapM_some_get h j j (by simp [hj])
    obtain ⟨b, off, spot⟩ := a
    have h0 := hg 0 hn
    have hsome : ∃ v, cs[0]? = some v := by
      have : 0 < cs.length := by simp at hl; omega
      exact ⟨cs[0], by simp [List.getElem?_eq_getElem this]⟩
    obtain ⟨v, hv⟩ := hsome
    rw [hv] at h0
    have hs : spot = none := by simpa [Addr.add] using World.cell?_spot h0
    subst hs
    refine ⟨b, off, rfl, by simpa using hl, fun j v hv => ?_⟩
    have hj : j < cs.length := (List.getElem?_eq_some_iff.1 hv).1
    have := hg j (by simp at hl; omega)
    rw [hv] at this
    rw [← this]
    congr 1
    unfold Addr.add
    split <;> simp_all
  · cases h

mutual
theorem sees_of_trod : ∀ (s : Sh) (t : TypeId) (_ : s.fits P (.inl t) = true) (fuel : Nat) (cs : List Value) (x : DataW H × List MemPlace),
    DataW.trod enc P w base sp held fuel t cs = some x → ∃ y : s.Ty, Sees w s cs y
  | .int k, t, hf, fuel, cs, x, h => by
    simp only [Sh.fits] at hf
    split at hf
    · rename_i k' hu
      have : k = k' := by simpa using hf
      subst this
      obtain ⟨n, rfl, _, hw⟩ := DataW.trod_int hu h
      exact ⟨n, rfl, hw⟩
    · cases hf
  | .bool, t, hf, fuel, cs, x, h => by
    simp only [Sh.fits] at hf
    split at hf
    · rename_i hu
      obtain ⟨b, rfl, _⟩ := DataW.trod_bool hu h
      exact ⟨b, rfl⟩
    · cases hf
  | .str, t, hf, fuel, cs, x, h => by
    simp only [Sh.fits] at hf
    split at hf
    · rename_i hu
      obtain ⟨s, rfl, _, hs⟩ := DataW.trod_string hu h
      exact ⟨s, rfl, hs⟩
    · cases hf
  | .slice e, t, hf, fuel, cs, x, h => by
    simp only [Sh.fits] at hf
    split at hf
    · rename_i te hu
      simp only [Bool.and_eq_true, beq_iff_eq, decide_eq_true_eq] at hf
      obtain ⟨⟨hsz, hpos⟩, hfe⟩ := hf
      rcases DataW.trod_slice hu h with ⟨rfl, _⟩ | ⟨a, len, cap, elems, rest, n, _, rfl, _, _, hlc, hcm, hel, helem, _, _⟩
      · exact ⟨[], none, 0, 0, rfl, rfl, Nat.le_refl _, Nat.zero_le _, fun _ => ⟨rfl, rfl⟩, fun i x hx => by simp at hx⟩
      · -- each element
        have key : ∀ i, i < len → ∃ (b off : Nat) (cs' : List Value) (y : e.Ty), a = ⟨b, off, none⟩ ∧ cs'.length = e.size ∧ (∀ j v, cs'[j]? = some v → w.cell? ⟨b, off + i * e.size + j, none⟩ = some v) ∧ Sees w e cs' y := by
          intro i hi
          have h1 := helem i hi
          have hx : ∃ z, elems[i]? = some z := ⟨elems[i]'(by omega), by simp [List.getElem?_eq_getElem (show i < elems.length by omega)]⟩
          obtain ⟨z, hz⟩ := hx
          rw [hz] at h1
          simp only [Option.bind_eq_some_iff] at h1
          obtain ⟨cs', hcs, htr⟩ := h1
          rw [hsz] at hcs
          obtain ⟨b, off, hadd, hlen, hcell⟩ := cells?_row hpos hcs
          obtain ⟨y, hy⟩ := sees_of_trod e te hfe n cs' z htr
          obtain ⟨b0, off0, sp0⟩ := a
          by_cases h0 : i * e.size = 0
          · rw [h0] at hadd
            simp [Addr.add] at hadd
            obtain ⟨rfl, rfl, rfl⟩ := hadd
            exact ⟨_, _, cs', y, rfl, hlen, fun j v hv => by have := hcell j v hv; rw [h0]; simpa using this, hy⟩
          · -- the first element fixes the spot
            have h2 := helem 0 (by omega)
            have hx2 : ∃ z, elems[0]? = some z := ⟨elems[0]'(by omega), by simp [List.getElem?_eq_getElem (show 0 < elems.length by omega)]⟩
            obtain ⟨z2, hz2⟩ := hx2
            rw [hz2] at h2
            simp only [Option.bind_eq_some_iff] at h2
            obtain ⟨cs2, hcs2, _⟩ := h2
            rw [hsz] at hcs2
            obtain ⟨b2, off2, hadd2, _, _⟩ := cells?_row hpos hcs2
            simp [Addr.add] at hadd2
            obtain ⟨rfl, rfl, rfl⟩ := hadd2
            simp [Addr.add, h0] at hadd
            obtain ⟨rfl, rfl⟩ := hadd
            exact ⟨_, _, cs', y, rfl, hlen, hcell, hy⟩
        have : ∃ l : List e.Ty, l.length = len ∧ ∀ i x, l[i]? = some x → ∃ b off cs', some a = some ⟨b, off, none⟩ ∧ cs'.length = e.size ∧ (∀ j v, cs'[j]? = some v → w.cell? ⟨b, off + i * e.size + j, none⟩ = some v) ∧ Sees w e cs' x := by
          clear helem h hel
          have gen : ∀ m, m ≤ len → ∃ l : List e.Ty, l.length = m ∧ ∀ i x, l[i]? = some x → ∃ b off cs', some a = some ⟨b, off, none⟩ ∧ cs'.length = e.size ∧ (∀ j v, cs'[j]? = some v → w.cell? ⟨b, off + i * e.size + j, none⟩ = some v) ∧ Sees w e cs' x := by
            intro m
            induction m with
            | zero => intro _; exact ⟨[], rfl, fun i x hx => by simp at hx⟩
            | succ m ih =>
              intro hm
              obtain ⟨l, hl, hh⟩ := ih (by omega)
              obtain ⟨b, off, cs', y, ha, hlen, hcell, hs⟩ := key m (by omega)
              refine ⟨l ++ [y], by simp [hl], fun i x hx => ?_⟩
              by_cases hi : i < m
              · rw [List.getElem?_append_left (by omega)] at hx
                exact hh i x hx
              · have : i = m := by
                  have := (List.getElem?_eq_some_iff.1 hx).1
                  simp at this; omega
                subst this
                rw [List.getElem?_append_right (by omega)] at hx
                simp [hl] at hx
                subst hx
                exact ⟨b, off, cs', by rw [ha], hlen, hcell, hs⟩
          exact gen len (Nat.le_refl _)
        obtain ⟨l, hl, hh⟩ := this
        exact ⟨l, some a, len, cap, rfl, hl, hlc, hcm, (fun hn => by simp at hn), hh⟩
    · cases hf
  | .unit, t, hf, fuel, cs, x, h => by
    simp only [Sh.fits] at hf
    split at hf
    · rename_i fs hu
      simp only [Bool.and_eq_true, beq_iff_eq] at hf
      obtain ⟨xs, n, rfl, hx, hl, hn, hfd⟩ := DataW.trod_struct hu h
      exact ⟨(), List.eq_nil_of_length_eq_zero (by omega)⟩
    · cases hf
  | .pair a b, t, hf, fuel, cs, x, h => by
    simp only [Sh.fits] at hf
    split at hf
    · rename_i fs hu
      simp only [Bool.and_eq_true, beq_iff_eq] at hf
      obtain ⟨hct, hf⟩ := hf
      obtain ⟨xs, n, rfl, hx, hl, hn, hfd⟩ := DataW.trod_struct hu h
      split at hf
      · rename_i f r hfs
        simp only [Bool.and_eq_true, beq_iff_eq] at hf
        obtain ⟨⟨⟨ho, hca⟩, hfa⟩, hfb⟩ := hf
        have hget : ∀ (i : Nat) (f' : Field), (f :: r)[i]? = some f' → ∃ z, DataW.trod enc P w base sp held n f'.type ((cs.drop f'.offset).take (P.cellsOf f'.type)) = some z := by
          intro i f' hi
          have hi' : fs[i]? = some f' := by rw [← Array.getElem?_toList, hfs]; exact hi
          have hlt : i < xs.length := by rw [hn]; exact (Array.getElem?_eq_some_iff.1 hi').1
          exact ⟨xs[i], by rw [hfd i f' hi', List.getElem?_eq_getElem hlt]⟩
        obtain ⟨z, hz⟩ := hget 0 f rfl
        rw [ho, hca] at hz
        simp only [List.drop_zero] at hz
        obtain ⟨y1, h1⟩ := sees_of_trod a f.type hfa n _ z hz
        obtain ⟨y2, h2⟩ := sees_of_fields b r a.size hfb n cs (by rw [hl, hct]; rfl) (fun i f' hi => hget (i + 1) f' (by simpa using hi))
        exact ⟨(y1, y2), cs.take a.size, cs.drop a.size, (List.take_append_drop _ _).symm, h1, h2⟩
      · cases hf
    · cases hf
theorem sees_of_fields : ∀ (s : Sh) (fs : List Field) (off : Nat) (_ : s.fits P (.inr (fs, off)) = true) (n : Nat) (cs : List Value) (_ : cs.length = off + s.size),
    (∀ (i : Nat) (f : Field), fs[i]? = some f → ∃ z : DataW H × List MemPlace, DataW.trod enc P w base sp held n f.type ((cs.drop f.offset).take (P.cellsOf f.type)) = some z) → ∃ y : s.Ty, Sees w s (cs.drop off) y
  | .unit, fs, off, _, n, cs, hl, _ => ⟨(), List.eq_nil_of_length_eq_zero (by simp [Sh.size] at hl; simp [hl])⟩
  | .pair a b, fs, off, hf, n, cs, hl, hget => by
    simp only [Sh.fits] at hf
    split at hf
    · rename_i f r
      simp only [Bool.and_eq_true, beq_iff_eq] at hf
      obtain ⟨⟨⟨ho, hca⟩, hfa⟩, hfb⟩ := hf
      obtain ⟨z, hz⟩ := hget 0 f rfl
      rw [ho, hca] at hz
      obtain ⟨y1, h1⟩ := sees_of_trod a f.type hfa n _ z hz
      obtain ⟨y2, h2⟩ := sees_of_fields b r (off + a.size) hfb n cs (by simp [Sh.size] at hl; omega) (fun i f' hi => hget (i + 1) f' (by simpa using hi))
      refine ⟨(y1, y2), (cs.drop off).take a.size, (cs.drop off).drop a.size, (List.take_append_drop _ _).symm, h1, ?_⟩
      rw [List.drop_drop]
      exact h2
    · cases hf
  | .int _, _, _, hf, _, _, _, _ => by simp [Sh.fits] at hf
  | .bool, _, _, hf, _, _, _, _ => by simp [Sh.fits] at hf
  | .str, _, _, hf, _, _, _, _ => by simp [Sh.fits] at hf
  | .slice _, _, _, hf, _, _, _, _ => by simp [Sh.fits] at hf
end

/-- A value (a struct by value, or one cell) reads as data. -/
def SeesV (w : World) (s : Sh) (v : Value) (x : s.Ty) : Prop := Sees w s v.cells.toList x

theorem seesV_of (s : Sh) {t : TypeId} {v : Value} {d : DataW H} {ps : List MemPlace} (hf : s.fits P (.inl t) = true) (h : DataW.Trod enc P w base sp held t v d ps) : ∃ x : s.Ty, SeesV w s v x := by
  obtain ⟨m, hm⟩ := h
  exact sees_of_trod s t hf m _ _ hm

/-- A struct by value: its cells. -/
theorem SeesV.agg {s : Sh} {v : Value} {x : s.Ty} {r : Reach} {b0 : Nat} {t : TypeId} {fs : Array Field} (ht : P.underlying t = some (.struct fs)) (hv : Value.okWide P w r b0 t v) (h : SeesV w s v x) : ∃ cs : List Value, v = .agg cs.toArray ∧ Sees w s cs x := by
  simp only [Value.okWide, ht] at hv
  obtain ⟨cs, rfl, _, _⟩ := hv
  exact ⟨cs.toList, by simp, by simpa [SeesV, Value.cells] using h⟩
end

/-- A slice that came in, of elements of n cells, which read as data of shape s. -/
structure RowIn (w : World) (s : Sh) (a : Option Addr) (len cap : Nat) (l : List s.Ty) : Prop where
  length : l.length = len
  le : len ≤ cap
  max : cap ≤ maxLen
  nil : a = none → len = 0 ∧ cap = 0
  at_ : ∀ (i : Nat) (x : s.Ty), l[i]? = some x → ∃ (b off : Nat) (cs' : List Value), a = some ⟨b, off, none⟩ ∧ cs'.length = s.size ∧ (∀ (j : Nat) (v : Value), cs'[j]? = some v → w.cell? ⟨b, off + i * s.size + j, none⟩ = some v) ∧ Sees w s cs' x

theorem Sees.row {w : World} {s : Sh} {cs : List Value} {l : List s.Ty} (h : Sees w (.slice s) cs l) : ∃ a len cap, cs = [.slice a len cap] ∧ RowIn w s a len cap l := by
  simp only [Sees] at h
  obtain ⟨a, len, cap, hc, hl, h1, h2, h3, h4⟩ := h
  exact ⟨a, len, cap, hc, hl, h1, h2, h3, h4⟩

theorem RowIn.ext {w w' : World} {s : Sh} {a : Option Addr} {len cap : Nat} {l : List s.Ty} (h : RowIn w s a len cap l) (e : Ext w w') : RowIn w' s a len cap l := by
  have hs : Sees w (.slice s) [.slice a len cap] l := ⟨a, len, cap, rfl, h.1, h.2, h.3, h.4, h.5⟩
  obtain ⟨a', len', cap', hc, hr⟩ := (hs.ext e).row
  simp at hc
  obtain ⟨rfl, rfl, rfl⟩ := hc
  exact hr

/-- A slice whose elements' n cells are known outright. -/
structure FlatRow {α : Type} (w : World) (n : Nat) (cells : α → List Value) (a : Option Addr) (len cap : Nat) (l : List α) : Prop where
  length : l.length = len
  le : len ≤ cap
  max : cap ≤ maxLen
  nil : a = none → len = 0 ∧ cap = 0
  at_ : ∀ (i : Nat) (x : α), l[i]? = some x → ∃ (b off : Nat), a = some ⟨b, off, none⟩ ∧ ∀ (j : Nat) (v : Value), (cells x)[j]? = some v → w.cell? ⟨b, off + i * n + j, none⟩ = some v

theorem RowIn.flat {α : Type} {w : World} {s : Sh} {a : Option Addr} {len cap : Nat} {l : List s.Ty} (h : RowIn w s a len cap l) (f : s.Ty → α) (cells : α → List Value) (ok : α → Prop) (n : Nat) (hn : s.size = n)
    (hf : ∀ cs x, Sees w s cs x → cs = cells (f x) ∧ ok (f x)) : FlatRow w n cells a len cap (l.map f) ∧ ∀ x, x ∈ l.map f → ok x := by
  subst hn
  refine ⟨⟨by simp [h.length], h.le, h.max, h.nil, fun i x hx => ?_⟩, fun x hx => ?_⟩
  · simp only [List.getElem?_map, Option.map_eq_some_iff] at hx
    obtain ⟨y, hy, rfl⟩ := hx
    obtain ⟨b, off, cs, ha, _, hc, hs⟩ := h.at_ i y hy
    obtain ⟨rfl, _⟩ := hf _ _ hs
    exact ⟨b, off, ha, hc⟩
  · simp only [List.mem_map] at hx
    obtain ⟨y, hy, rfl⟩ := hx
    obtain ⟨i, hi, rfl⟩ := List.getElem_of_mem hy
    obtain ⟨b, off, cs, ha, _, hc, hs⟩ := h.at_ i _ (List.getElem?_eq_getElem hi)
    exact (hf _ _ hs).2

theorem Ext.cellAt {w w' : World} (e : Ext w w') {b o : Nat} {v : Value} (h : w.cell? ⟨b, o, none⟩ = some v) : w'.cell? ⟨b, o, none⟩ = some v := by
  rw [Below.cell e (World.block_lt_of_cell? w _ h)]; exact h

theorem FlatRow.ext {α : Type} {w w' : World} {n : Nat} {cells : α → List Value} {a : Option Addr} {len cap : Nat} {l : List α} (h : FlatRow w n cells a len cap l) (e : Ext w w') : FlatRow w' n cells a len cap l :=
  ⟨h.length, h.le, h.max, h.nil, fun i x hx => by
    obtain ⟨b, off, ha, hc⟩ := h.at_ i x hx
    exact ⟨b, off, ha, fun j v hv => e.cellAt (hc j v hv)⟩⟩

/-- One element, by its number. -/
theorem FlatRow.get {α : Type} {w : World} {n : Nat} {cells : α → List Value} {a : Option Addr} {len cap : Nat} {l : List α} (h : FlatRow w n cells a len cap l) {i : Nat} (hi : i < len) :
    ∃ x b off, l[i]? = some x ∧ a = some ⟨b, off, none⟩ ∧ ∀ (j : Nat) (v : Value), (cells x)[j]? = some v → w.cell? ⟨b, off + i * n + j, none⟩ = some v := by
  have hl : i < l.length := by rw [h.length]; exact hi
  obtain ⟨b, off, ha, hc⟩ := h.at_ i l[i] (List.getElem?_eq_getElem hl)
  exact ⟨l[i], b, off, List.getElem?_eq_getElem hl, ha, hc⟩

/-- One more of a list's beginning. -/
theorem take_succ_of {α : Type} {l : List α} {k : Nat} {x : α} (h : l[k]? = some x) : l.take (k + 1) = l.take k ++ [x] := by
  rw [List.take_add_one, h]; rfl

end Go.Proofs.Ytieklcdpnehpnaa
