/-
  Plain data that came in (numbers, bools, strings, slices, structs of these, nested as they may be): from the form's reading to a term of Lean, by the type's shape. Over any program.
-/
import Derived.WalkKit
import Derived.ProofKit
import Derived.OpenShut
import Derived.Lib.SmallJoins
import Derived.Test.YthfdhamencefiaaBase
set_option linter.unusedVariables false
set_option linter.unusedSimpArgs false
namespace Go.Proofs.Ythfdhamencefiaa
open Go.RowKit Go.ChangeShapes Go.WideShapes Go.ChangeAt

/-- The shapes of plain data; a struct is a row of pairs that ends in 'unit'. -/
inductive Sh where
  | int (k : IntKind)
  | bool
  | str
  | slice (e : Sh)
  | unit
  | pair (a b : Sh)

/-- What data of a shape are in Lean. -/
@[reducible] def Sh.Ty : Sh → Type
  | .int _ => Int
  | .bool => Bool
  | .str => ByteArray
  | .slice e => List e.Ty
  | .unit => Unit
  | .pair a b => a.Ty × b.Ty

/-- How many cells. -/
def Sh.size : Sh → Nat
  | .int _ | .bool | .str | .slice _ => 1
  | .unit => 0
  | .pair a b => a.size + b.size

/-- The cells 'cs' read as the data 'x' in the world w. -/
def Sees (w : World) : (s : Sh) → List Value → s.Ty → Prop
  | .int k, cs, n => cs = [.int k n] ∧ (Lit.int k n).wf = true
  | .bool, cs, b => cs = [.bool b]
  | .str, cs, s => cs = [.string s] ∧ s.size ≤ maxLen
  | .slice e, cs, l => ∃ a len cap, cs = [.slice a len cap] ∧ l.length = len ∧ len ≤ cap ∧ cap ≤ maxLen ∧ (a = none → len = 0 ∧ cap = 0) ∧
      ∀ i x, l[i]? = some x → ∃ b off cs', a = some ⟨b, off, none⟩ ∧ cs'.length = e.size ∧ (∀ j v, cs'[j]? = some v → w.cell? ⟨b, off + i * e.size + j, none⟩ = some v) ∧ Sees w e cs' x
  | .unit, cs, _ => cs = []
  | .pair a b, cs, x => ∃ c1 c2, cs = c1 ++ c2 ∧ Sees w a c1 x.1 ∧ Sees w b c2 x.2

theorem Sees.length {w : World} : ∀ {s : Sh} {cs : List Value} {x : s.Ty}, Sees w s cs x → cs.length = s.size
  | .int _, _, _, h => by simp only [Sees] at h; simp [h.1, Sh.size]
  | .bool, _, _, h => by simp only [Sees] at h; simp [h, Sh.size]
  | .str, _, _, h => by simp only [Sees] at h; simp [h.1, Sh.size]
  | .slice _, _, _, h => by simp only [Sees] at h; obtain ⟨_, _, _, rfl, _⟩ := h; simp [Sh.size]
  | .unit, _, _, h => by simp only [Sees] at h; simp [h, Sh.size]
  | .pair _ _, _, _, h => by
    simp only [Sees] at h
    obtain ⟨c1, c2, rfl, h1, h2⟩ := h
    simp [Sh.size, h1.length, h2.length]

/-- What was read stays so while nothing old turns. -/
theorem Sees.ext {w w' : World} (e : Ext w w') : ∀ {s : Sh} {cs : List Value} {x : s.Ty}, Sees w s cs x → Sees w' s cs x
  | .int _, _, _, h => h
  | .bool, _, _, h => h
  | .str, _, _, h => h
  | .slice _, _, _, h => by
    simp only [Sees] at h ⊢
    obtain ⟨a, len, cap, hc, hl, h1, h2, h3, h4⟩ := h
    refine ⟨a, len, cap, hc, hl, h1, h2, h3, fun i x hx => ?_⟩
    obtain ⟨b, off, cs', ha, hlen, hcell, hs⟩ := h4 i x hx
    exact ⟨b, off, cs', ha, hlen, fun j v hv => by
      have := hcell j v hv
      rw [Below.cell e (World.block_lt_of_cell? w _ this)]; exact this, hs.ext e⟩
  | .unit, _, _, h => h
  | .pair _ _, _, _, h => by
    simp only [Sees] at h ⊢
    obtain ⟨c1, c2, hc, h1, h2⟩ := h
    exact ⟨c1, c2, hc, h1.ext e, h2.ext e⟩

/-- A type (or the rest of a struct's fields, from an offset on) has a shape. -/
def Sh.fits (P : Program) : Sh → Sum TypeId (List Field × Nat) → Bool
  | .int k, .inl t => (match P.underlying t with | some (.int k') => k == k' | _ => false)
  | .bool, .inl t => (match P.underlying t with | some .bool => true | _ => false)
  | .str, .inl t => (match P.underlying t with | some .string => true | _ => false)
  | .slice e, .inl t => (match P.underlying t with | some (.slice te) => P.cellsOf te == e.size && decide (0 < e.size) && e.fits P (.inl te) | _ => false)
  | .unit, .inl t => (match P.underlying t with | some (.struct fs) => fs.size == 0 && P.cellsOf t == 0 | _ => false)
  | .pair a b, .inl t => (match P.underlying t with
    | some (.struct fs) => P.cellsOf t == (Sh.pair a b).size && (match fs.toList with
      | f :: r => f.offset == 0 && P.cellsOf f.type == a.size && a.fits P (.inl f.type) && b.fits P (.inr (r, a.size))
      | [] => false)
    | _ => false)
  | .unit, .inr (fs, _) => fs.isEmpty
  | .pair a b, .inr (fs, off) => (match fs with
    | f :: r => f.offset == off && P.cellsOf f.type == a.size && a.fits P (.inl f.type) && b.fits P (.inr (r, off + a.size))
    | [] => false)
  | _, _ => false

section
variable {H : Type} {enc : TypeId × Value → H} {P : Program} {w : World} {base : Nat} {sp : Nat → Bool} {held : Bool}

theorem cells?_row {a : Addr} {n : Nat} {cs : List Value} (hn : 0 < n) (h : w.cells? base a n = some cs) :
    ∃ b off, a = ⟨b, off, none⟩ ∧ cs.length = n ∧ ∀ j v, cs[j]? = some v → w.cell? ⟨b, off + j, none⟩ = some v := by
  unfold World.cells? at h
  split at h
  · have hl := mapM_some_length h
    have hg : ∀ j, j < n → w.cell? (a.add j) = cs[j]? := fun j hj => mapM_some_get h j j (by simp [hj])
    obtain ⟨b, off, spot⟩ := a
    have h0 := hg 0 hn
    have hsome : ∃ v, cs[0]? = some v := by
      have : 0 < cs.length := by simp at hl; omega
      exact ⟨cs[0], by simp [List.getElem?_eq_getElem this]⟩
    obtain ⟨v, hv⟩ := hsome
    rw [hv] at h0
    have hs : spot = none := by simpa [Addr.add] using World.cell?_spot h0
    subst hs
    refine ⟨b, off, rfl, by simpa using hl, fun j v hv => ?_⟩
    have hj : j < cs.length := (List.getElem?_eq_some_iff.1 hv).1
    have := hg j (by simp at hl; omega)
    rw [hv] at this
    rw [← this]
    congr 1
    unfold Addr.add
    split <;> simp_all
  · cases h

mutual
theorem sees_of_trod : ∀ (s : Sh) (t : TypeId) (_ : s.fits P (.inl t) = true) (fuel : Nat) (cs : List Value) (x : DataW H × List MemPlace),
    DataW.trod enc P w base sp held fuel t cs = some x → ∃ y : s.Ty, Sees w s cs y
  | .int k, t, hf, fuel, cs, x, h => by
    simp only [Sh.fits] at hf
    split at hf
    · rename_i k' hu
      have : k = k' := by simpa using hf
      subst this
      obtain ⟨n, rfl, _, hw⟩ := DataW.trod_int hu h
      exact ⟨n, rfl, hw⟩
    · cases hf
  | .bool, t, hf, fuel, cs, x, h => by
    simp only [Sh.fits] at hf
    split at hf
    · rename_i hu
      obtain ⟨b, rfl, _⟩ := DataW.trod_bool hu h
      exact ⟨b, rfl⟩
    · cases hf
  | .str, t, hf, fuel, cs, x, h => by
    simp only [Sh.fits] at hf
    split at hf
    · rename_i hu
      obtain ⟨s, rfl, _, hs⟩ := DataW.trod_string hu h
      exact ⟨s, rfl, hs⟩
    · cases hf
  | .slice e, t, hf, fuel, cs, x, h => by
    simp only [Sh.fits] at hf
    split at hf
    · rename_i te hu
      simp only [Bool.and_eq_true, beq_iff_eq, decide_eq_true_eq] at hf
      obtain ⟨⟨hsz, hpos⟩, hfe⟩ := hf
      rcases DataW.trod_slice hu h with ⟨rfl, _⟩ | ⟨a, len, cap, elems, rest, n, _, rfl, _, _, hlc, hcm, hel, helem, _, _⟩
      · exact ⟨[], none, 0, 0, rfl, rfl, Nat.le_refl _, Nat.zero_le _, fun _ => ⟨rfl, rfl⟩, fun i x hx => by simp at hx⟩
      · -- each element
        have key : ∀ i, i < len → ∃ (b off : Nat) (cs' : List Value) (y : e.Ty), a = ⟨b, off, none⟩ ∧ cs'.length = e.size ∧ (∀ j v, cs'[j]? = some v → w.cell? ⟨b, off + i * e.size + j, none⟩ = some v) ∧ Sees w e cs' y := by
          intro i hi
          have h1 := helem i hi
          have hx : ∃ z, elems[i]? = some z := ⟨elems[i]'(by omega), by simp [List.getElem?_eq_getElem (show i < elems.length by omega)]⟩
          obtain ⟨z, hz⟩ := hx
          rw [hz] at h1
          simp only [Option.bind_eq_some_iff] at h1
          obtain ⟨cs', hcs, htr⟩ := h1
          rw [hsz] at hcs
          obtain ⟨b, off, hadd, hlen, hcell⟩ := cells?_row hpos hcs
          obtain ⟨y, hy⟩ := sees_of_trod e te hfe n cs' z htr
          obtain ⟨b0, off0, sp0⟩ := a
          by_cases h0 : i * e.size = 0
          · rw [h0] at hadd
            simp [Addr.add] at hadd
            obtain ⟨rfl, rfl, rfl⟩ := hadd
            exact ⟨_, _, cs', y, rfl, hlen, fun j v hv => by have := hcell j v hv; rw [h0]; simpa using this, hy⟩
          · -- the first element fixes the spot
            have h2 := helem 0 (by omega)
            have hx2 : ∃ z, elems[0]? = some z := ⟨elems[0]'(by omega), by simp [List.getElem?_eq_getElem (show 0 < elems.length by omega)]⟩
            obtain ⟨z2, hz2⟩ := hx2
            rw [hz2] at h2
            simp only [Option.bind_eq_some_iff] at h2
            obtain ⟨cs2, hcs2, _⟩ := h2
            rw [hsz] at hcs2
            obtain ⟨b2, off2, hadd2, _, _⟩ := cells?_row hpos hcs2
            simp [Addr.add] at hadd2
            obtain ⟨rfl, rfl, rfl⟩ := hadd2
            simp [Addr.add, h0] at hadd
            obtain ⟨rfl, rfl⟩ := hadd
            exact ⟨_, _, cs', y, rfl, hlen, hcell, hy⟩
        have : ∃ l : List e.Ty, l.length = len ∧ ∀ i x, l[i]? = some x → ∃ b off cs', some a = some ⟨b, off, none⟩ ∧ cs'.length = e.size ∧ (∀ j v, cs'[j]? = some v → w.cell? ⟨b, off + i * e.size + j, none⟩ = some v) ∧ Sees w e cs' x := by
          clear helem h hel
          have gen : ∀ m, m ≤ len → ∃ l : List e.Ty, l.length = m ∧ ∀ i x, l[i]? = some x → ∃ b off cs', some a = some ⟨b, off, none⟩ ∧ cs'.length = e.size ∧ (∀ j v, cs'[j]? = some v → w.cell? ⟨b, off + i * e.size + j, none⟩ = some v) ∧ Sees w e cs' x := by
            intro m
            induction m with
            | zero => intro _; exact ⟨[], rfl, fun i x hx => by simp at hx⟩
            | succ m ih =>
              intro hm
              obtain ⟨l, hl, hh⟩ := ih (by omega)
              obtain ⟨b, off, cs', y, ha, hlen, hcell, hs⟩ := key m (by omega)
              refine ⟨l ++ [y], by simp [hl], fun i x hx => ?_⟩
              by_cases hi : i < m
              · rw [List.getElem?_append_left (by omega)] at hx
                exact hh i x hx
              · have : i = m := by
                  have := (List.getElem?_eq_some_iff.1 hx).1
                  simp at this; omega
                subst this
                rw [List.getElem?_append_right (by omega)] at hx
                simp [hl] at hx
                subst hx
                exact ⟨b, off, cs', by rw [ha], hlen, hcell, hs⟩
          exact gen len (Nat.le_refl _)
        obtain ⟨l, hl, hh⟩ := this
        exact ⟨l, some a, len, cap, rfl, hl, hlc, hcm, (fun hn => by simp at hn), hh⟩
    · cases hf
  | .unit, t, hf, fuel, cs, x, h => by
    simp only [Sh.fits] at hf
    split at hf
    · rename_i fs hu
      simp only [Bool.and_eq_true, beq_iff_eq] at hf
      obtain ⟨xs, n, rfl, hx, hl, hn, hfd⟩ := DataW.trod_struct hu h
      exact ⟨(), List.eq_nil_of_length_eq_zero (by omega)⟩
    · cases hf
  | .pair a b, t, hf, fuel, cs, x, h => by
    simp only [Sh.fits] at hf
    split at hf
    · rename_i fs hu
      simp only [Bool.and_eq_true, beq_iff_eq] at hf
      obtain ⟨hct, hf⟩ := hf
      obtain ⟨xs, n, rfl, hx, hl, hn, hfd⟩ := DataW.trod_struct hu h
      split at hf
      · rename_i f r hfs
        simp only [Bool.and_eq_true, beq_iff_eq] at hf
        obtain ⟨⟨⟨ho, hca⟩, hfa⟩, hfb⟩ := hf
        have hget : ∀ (i : Nat) (f' : Field), (f :: r)[i]? = some f' → ∃ z, DataW.trod enc P w base sp held n f'.type ((cs.drop f'.offset).take (P.cellsOf f'.type)) = some z := by
          intro i f' hi
          have hi' : fs[i]? = some f' := by rw [← Array.getElem?_toList, hfs]; exact hi
          have hlt : i < xs.length := by rw [hn]; exact (Array.getElem?_eq_some_iff.1 hi').1
          exact ⟨xs[i], by rw [hfd i f' hi', List.getElem?_eq_getElem hlt]⟩
        obtain ⟨z, hz⟩ := hget 0 f rfl
        rw [ho, hca] at hz
        simp only [List.drop_zero] at hz
        obtain ⟨y1, h1⟩ := sees_of_trod a f.type hfa n _ z hz
        obtain ⟨y2, h2⟩ := sees_of_fields b r a.size hfb n cs (by rw [hl, hct]; rfl) (fun i f' hi => hget (i + 1) f' (by simpa using hi))
        exact ⟨(y1, y2), cs.take a.size, cs.drop a.size, (List.take_append_drop _ _).symm, h1, h2⟩
      · cases hf
    · cases hf
theorem sees_of_fields : ∀ (s : Sh) (fs : List Field) (off : Nat) (_ : s.fits P (.inr (fs, off)) = true) (n : Nat) (cs : List Value) (_ : cs.length = off + s.size),
    (∀ (i : Nat) (f : Field), fs[i]? = some f → ∃ z : DataW H × List MemPlace, DataW.trod enc P w base sp held n f.type ((cs.drop f.offset).take (P.cellsOf f.type)) = some z) → ∃ y : s.Ty, Sees w s (cs.drop off) y
  | .unit, fs, off, _, n, cs, hl, _ => ⟨(), List.eq_nil_of_length_eq_zero (by simp [Sh.size] at hl; simp [hl])⟩
  | .pair a b, fs, off, hf, n, cs, hl, hget => by
    simp only [Sh.fits] at hf
    split at hf
    · rename_i f r
      simp only [Bool.and_eq_true, beq_iff_eq] at hf
      obtain ⟨⟨⟨ho, hca⟩, hfa⟩, hfb⟩ := hf
      obtain ⟨z, hz⟩ := hget 0 f rfl
      rw [ho, hca] at hz
      obtain ⟨y1, h1⟩ := sees_of_trod a f.type hfa n _ z hz
      obtain ⟨y2, h2⟩ := sees_of_fields b r (off + a.size) hfb n cs (by simp [Sh.size] at hl; omega) (fun i f' hi => hget (i + 1) f' (by simpa using hi))
      refine ⟨(y1, y2), (cs.drop off).take a.size, (cs.drop off).drop a.size, (List.take_append_drop _ _).symm, h1, ?_⟩
      rw [List.drop_drop]
      exact h2
    · cases hf
  | .int _, _, _, hf, _, _, _, _ => by simp [Sh.fits] at hf
  | .bool, _, _, hf, _, _, _, _ => by simp [Sh.fits] at hf
  | .str, _, _, hf, _, _, _, _ => by simp [Sh.fits] at hf
  | .slice _, _, _, hf, _, _, _, _ => by simp [Sh.fits] at hf
end

/-- A value (a struct by value, or one cell) reads as data. -/
def SeesV (w : World) (s : Sh) (v : Value) (x : s.Ty) : Prop := Sees w s v.cells.toList x

theorem seesV_of (s : Sh) {t : TypeId} {v : Value} {d : DataW H} {ps : List MemPlace} (hf : s.fits P (.inl t) = true) (h : DataW.Trod enc P w base sp held t v d ps) : ∃ x : s.Ty, SeesV w s v x := by
  obtain ⟨m, hm⟩ := h
  exact sees_of_trod s t hf m _ _ hm

/-- A struct by value: its cells. -/
theorem SeesV.agg {s : Sh} {v : Value} {x : s.Ty} {r : Reach} {b0 : Nat} {t : TypeId} {fs : Array Field} (ht : P.underlying t = some (.struct fs)) (hv : Value.okWide P w r b0 t v) (h : SeesV w s v x) : ∃ cs : List Value, v = .agg cs.toArray ∧ Sees w s cs x := by
  simp only [Value.okWide, ht] at hv
  obtain ⟨cs, rfl, _, _⟩ := hv
  exact ⟨cs.toList, by simp, by simpa [SeesV, Value.cells] using h⟩
end

/-- A slice that came in, of elements of n cells, which read as data of shape s. -/
structure RowIn (w : World) (s : Sh) (a : Option Addr) (len cap : Nat) (l : List s.Ty) : Prop where
  length : l.length = len
  le : len ≤ cap
  max : cap ≤ maxLen
  nil : a = none → len = 0 ∧ cap = 0
  at_ : ∀ (i : Nat) (x : s.Ty), l[i]? = some x → ∃ (b off : Nat) (cs' : List Value), a = some ⟨b, off, none⟩ ∧ cs'.length = s.size ∧ (∀ (j : Nat) (v : Value), cs'[j]? = some v → w.cell? ⟨b, off + i * s.size + j, none⟩ = some v) ∧ Sees w s cs' x

theorem Sees.row {w : World} {s : Sh} {cs : List Value} {l : List s.Ty} (h : Sees w (.slice s) cs l) : ∃ a len cap, cs = [.slice a len cap] ∧ RowIn w s a len cap l := by
  simp only [Sees] at h
  obtain ⟨a, len, cap, hc, hl, h1, h2, h3, h4⟩ := h
  exact ⟨a, len, cap, hc, hl, h1, h2, h3, h4⟩

theorem RowIn.ext {w w' : World} {s : Sh} {a : Option Addr} {len cap : Nat} {l : List s.Ty} (h : RowIn w s a len cap l) (e : Ext w w') : RowIn w' s a len cap l := by
  have hs : Sees w (.slice s) [.slice a len cap] l := ⟨a, len, cap, rfl, h.1, h.2, h.3, h.4, h.5⟩
  obtain ⟨a', len', cap', hc, hr⟩ := (hs.ext e).row
  simp at hc
  obtain ⟨rfl, rfl, rfl⟩ := hc
  exact hr

/-- A slice by value. -/
theorem SeesV.slice {P : Program} {w : World} {s : Sh} {v : Value} {x : List s.Ty} {r : Reach} {b0 : Nat} {t te : TypeId} (ht : P.underlying t = some (.slice te)) (hv : Value.okWide P w r b0 t v) (h : SeesV w (.slice s) v x) : ∃ a len cap, v = .slice a len cap ∧ RowIn w s a len cap x := by
  obtain ⟨a, len, cap, hc, hr⟩ := Sees.row h
  refine ⟨a, len, cap, ?_, hr⟩
  simp only [Value.okWide, ht] at hv
  cases v with
  | agg cs => simp [Cell.okWide, Cell.ok, ht] at hv
  | slice a' n' c' => simpa [Value.cells] using hc
  | _ => simp [Value.cells] at hc

/-- A slice whose elements' n cells are known outright. -/
structure FlatRow {α : Type} (w : World) (n : Nat) (cells : α → List Value) (a : Option Addr) (len cap : Nat) (l : List α) : Prop where
  length : l.length = len
  le : len ≤ cap
  max : cap ≤ maxLen
  nil : a = none → len = 0 ∧ cap = 0
  at_ : ∀ (i : Nat) (x : α), l[i]? = some x → ∃ (b off : Nat), a = some ⟨b, off, none⟩ ∧ ∀ (j : Nat) (v : Value), (cells x)[j]? = some v → w.cell? ⟨b, off + i * n + j, none⟩ = some v

theorem RowIn.flat {α : Type} {w : World} {s : Sh} {a : Option Addr} {len cap : Nat} {l : List s.Ty} (h : RowIn w s a len cap l) (f : s.Ty → α) (cells : α → List Value) (ok : α → Prop) (n : Nat) (hn : s.size = n)
    (hf : ∀ cs x, Sees w s cs x → cs = cells (f x) ∧ ok (f x)) : FlatRow w n cells a len cap (l.map f) ∧ ∀ x, x ∈ l.map f → ok x := by
  subst hn
  refine ⟨⟨by simp [h.length], h.le, h.max, h.nil, fun i x hx => ?_⟩, fun x hx => ?_⟩
  · simp only [List.getElem?_map, Option.map_eq_some_iff] at hx
    obtain ⟨y, hy, rfl⟩ := hx
    obtain ⟨b, off, cs, ha, _, hc, hs⟩ := h.at_ i y hy
    obtain ⟨rfl, _⟩ := hf _ _ hs
    exact ⟨b, off, ha, hc⟩
  · simp only [List.mem_map] at hx
    obtain ⟨y, hy, rfl⟩ := hx
    obtain ⟨i, hi, rfl⟩ := List.getElem_of_mem hy
    obtain ⟨b, off, cs, ha, _, hc, hs⟩ := h.at_ i _ (List.getElem?_eq_getElem hi)
    exact (hf _ _ hs).2

theorem Ext.cellAt {w w' : World} (e : Ext w w') {b o : Nat} {v : Value} (h : w.cell? ⟨b, o, none⟩ = some v) : w'.cell? ⟨b, o, none⟩ = some v := by
  rw [Below.cell e (World.block_lt_of_cell? w _ h)]; exact h

theorem FlatRow.ext {α : Type} {w w' : World} {n : Nat} {cells : α → List Value} {a : Option Addr} {len cap : Nat} {l : List α} (h : FlatRow w n cells a len cap l) (e : Ext w w') : FlatRow w' n cells a len cap l :=
  ⟨h.length, h.le, h.max, h.nil, fun i x hx => by
    obtain ⟨b, off, ha, hc⟩ := h.at_ i x hx
    exact ⟨b, off, ha, fun j v hv => e.cellAt (hc j v hv)⟩⟩

/-- One element, by its number. -/
theorem FlatRow.get {α : Type} {w : World} {n : Nat} {cells : α → List Value} {a : Option Addr} {len cap : Nat} {l : List α} (h : FlatRow w n cells a len cap l) {i : Nat} (hi : i < len) :
    ∃ x b off, l[i]? = some x ∧ a = some ⟨b, off, none⟩ ∧ ∀ (j : Nat) (v : Value), (cells x)[j]? = some v → w.cell? ⟨b, off + i * n + j, none⟩ = some v := by
  have hl : i < l.length := by rw [h.length]; exact hi
  obtain ⟨b, off, ha, hc⟩ := h.at_ i l[i] (List.getElem?_eq_getElem hl)
  exact ⟨l[i], b, off, List.getElem?_eq_getElem hl, ha, hc⟩

/-- A part of a slice. -/
theorem FlatRow.part {α : Type} {w : World} {n : Nat} {cells : α → List Value} {b off : Nat} {len cap : Nat} {l : List α} (h : FlatRow w n cells (some ⟨b, off, none⟩) len cap l) (i j : Nat) (hij : i ≤ j) (hj : j ≤ len) :
    FlatRow w n cells (some ⟨b, off + i * n, none⟩) (j - i) (cap - i) ((l.drop i).take (j - i)) :=
  ⟨by rw [List.length_take, List.length_drop, h.length]; omega, by have := h.le; omega, by have := h.max; omega, fun hn => by simp at hn, fun m x hx => by
    rw [List.getElem?_take] at hx
    split at hx
    · rw [List.getElem?_drop] at hx
      obtain ⟨b', off', ha, hc⟩ := h.at_ (i + m) x hx
      simp at ha
      obtain ⟨rfl, rfl⟩ := ha
      refine ⟨b, off + i * n, rfl, fun q v hv => ?_⟩
      have := hc q v hv
      rw [Nat.add_mul] at this
      have e : off + i * n + m * n + q = off + (i * n + m * n) + q := by omega
      rw [e]
      exact this
    · cases hx⟩

/-- The same, in blocks of a known type: so it stays while blocks of this type do. -/
structure FlatT {α : Type} (w : World) (T : TypeId) (n : Nat) (cells : α → List Value) (a : Option Addr) (len cap : Nat) (l : List α) : Prop where
  length : l.length = len
  le : len ≤ cap
  max : cap ≤ maxLen
  nil : a = none → len = 0 ∧ cap = 0
  at_ : ∀ (i : Nat) (x : α), l[i]? = some x → ∃ (b off : Nat) (c : Array Value) (fr : Nat × Nat), a = some ⟨b, off, none⟩ ∧ w.heap[b]? = some (.cells c T fr) ∧ ∀ (j : Nat) (v : Value), (cells x)[j]? = some v → c[off + i * n + j]? = some v
theorem FlatT.flat {α : Type} {w : World} {T : TypeId} {n : Nat} {cells : α → List Value} {a : Option Addr} {len cap : Nat} {l : List α} (h : FlatT w T n cells a len cap l) : FlatRow w n cells a len cap l :=
  ⟨h.length, h.le, h.max, h.nil, fun i x hx => by
    obtain ⟨b, off, c, fr, ha, hb, hc⟩ := h.at_ i x hx
    exact ⟨b, off, ha, fun j v hv => by rw [cell_of_row w b _ c T fr hb]; exact hc j v hv⟩⟩
theorem FlatT.keep {α : Type} {w w' : World} {T : TypeId} {n : Nat} {cells : α → List Value} {a : Option Addr} {len cap : Nat} {l : List α} (h : FlatT w T n cells a len cap l) {S : List TypeId} (k : Keep S w w') (hT : T ∈ S) : FlatT w' T n cells a len cap l :=
  ⟨h.length, h.le, h.max, h.nil, fun i x hx => by
    obtain ⟨b, off, c, fr, ha, hb, hc⟩ := h.at_ i x hx
    exact ⟨b, off, c, fr, ha, k b c T fr hT hb, hc⟩⟩

/-- One more of a list's beginning. -/
theorem take_succ_of {α : Type} {l : List α} {k : Nat} {x : α} (h : l[k]? = some x) : l.take (k + 1) = l.take k ++ [x] := by
  rw [List.take_add_one, h]; rfl

theorem wf_u64 {n : Int} (h : (Lit.int .u64 n).wf = true) : 0 ≤ n ∧ n < 18446744073709551616 := by
  simp [Lit.wf, IntKind.min, IntKind.max, IntKind.signed, IntKind.bits] at h; omega
theorem wf_i64 {n : Int} (h : (Lit.int .i64 n).wf = true) : -9223372036854775808 ≤ n ∧ n < 9223372036854775808 := by
  simp [Lit.wf, IntKind.min, IntKind.max, IntKind.signed, IntKind.bits] at h; omega

/-- A plain entry's numbers fit their kinds, its data the length of a string. -/
def Ent.ok (e : Ent) : Prop := (0 ≤ e.term ∧ e.term < 18446744073709551616) ∧ (0 ≤ e.index ∧ e.index < 18446744073709551616) ∧ (-9223372036854775808 ≤ e.kind ∧ e.kind < 9223372036854775808) ∧ e.data.size ≤ maxLen
/-- Its four cells. -/
def Ent.cells (e : Ent) : List Value := [.int .u64 e.term, .int .u64 e.index, .int .i64 e.kind, .string e.data]

/-- A row of the call's own, in a block of its own, of elements of n cells each. -/
structure OwnRow {α : Type} (w : World) (base g : Nat) (T : TypeId) (n : Nat) (cells : α → List Value) (cap : Nat) (l : List α) : Prop where
  base_le : base ≤ g
  le : l.length ≤ cap
  max : cap ≤ maxLen
  blk : ∃ cur : Array Value, Blk w g cur T ∧ cur.size = cap * n ∧ ∀ (i : Nat) (x : α), l[i]? = some x → ∀ (j : Nat) (v : Value), (cells x)[j]? = some v → cur[i * n + j]? = some v

theorem OwnRow.lt {α : Type} {w : World} {base g : Nat} {T : TypeId} {n : Nat} {cells : α → List Value} {cap : Nat} {l : List α} (h : OwnRow w base g T n cells cap l) : g < w.heap.size := by
  obtain ⟨cur, hb, _⟩ := h.blk; exact hb.lt
theorem OwnRow.cell {α : Type} {w : World} {base g : Nat} {T : TypeId} {n : Nat} {cells : α → List Value} {cap : Nat} {l : List α} (h : OwnRow w base g T n cells cap l) {i : Nat} {x : α} (hx : l[i]? = some x) {j : Nat} {v : Value} (hv : (cells x)[j]? = some v) : w.cell? ⟨g, i * n + j, none⟩ = some v := by
  obtain ⟨cur, hb, _, hc⟩ := h.blk
  rw [hb.cell]; exact hc i x hx j v hv
theorem OwnRow.free {α : Type} {w : World} {base g : Nat} {T : TypeId} {n : Nat} {cells : α → List Value} {cap : Nat} {l : List α} (h : OwnRow w base g T n cells cap l) (o : Nat) : w.frozen? ⟨g, o, none⟩ = false := by
  obtain ⟨cur, hb, _⟩ := h.blk; exact hb.free o
theorem OwnRow.ext {α : Type} {w w' : World} {base g : Nat} {T : TypeId} {n : Nat} {cells : α → List Value} {cap : Nat} {l : List α} (h : OwnRow w base g T n cells cap l) (e : Ext w w') : OwnRow w' base g T n cells cap l := by
  obtain ⟨cur, hb, h1, h2⟩ := h.blk
  exact ⟨h.base_le, h.le, h.max, cur, hb.ext e, h1, h2⟩
theorem OwnRow.keep {α : Type} {w w' : World} {base g : Nat} {T : TypeId} {n : Nat} {cells : α → List Value} {cap : Nat} {l : List α} (h : OwnRow w base g T n cells cap l) {S : List TypeId} (e : Keep S w w') (hT : T ∈ S) : OwnRow w' base g T n cells cap l := by
  obtain ⟨cur, hb, h1, h2⟩ := h.blk
  exact ⟨h.base_le, h.le, h.max, cur, e.blk hb hT, h1, h2⟩

theorem OwnRow.drew {α : Type} {w : World} {base g : Nat} {T : TypeId} {n : Nat} {cells : α → List Value} {cap : Nat} {l : List α} (h : OwnRow w base g T n cells cap l) : OwnRow w.drew base g T n cells cap l := by
  obtain ⟨cur, hb, h1, h2⟩ := h.blk
  exact ⟨h.base_le, h.le, h.max, cur, hb, h1, h2⟩

/-- One cell of one element is written. -/
theorem OwnRow.set {α : Type} {w : World} {base g : Nat} {T : TypeId} {n : Nat} {cells : α → List Value} {cap : Nat} {l : List α} (h : OwnRow w base g T n cells cap l) (hn : ∀ x, (cells x).length = n) {i : Nat} {x : α} (hx : l[i]? = some x) (x' : α) (j : Nat) (v : Value) (hj : j < n) (hc : cells x' = (cells x).set j v) :
    OwnRow (w.setCell ⟨g, i * n + j, none⟩ v) base g T n cells cap (l.set i x') := by
  obtain ⟨cur, hb, h1, h2⟩ := h.blk
  have hil : i < l.length := (List.getElem?_eq_some_iff.1 hx).1
  refine ⟨h.base_le, by simpa using h.le, h.max, cur.setIfInBounds (i * n + j) v, hb.set _ _, by simpa using h1, fun k y hy m u hu => ?_⟩
  have hm : m < n := by rw [← hn y]; exact (List.getElem?_eq_some_iff.1 hu).1
  rw [Array.getElem?_setIfInBounds]
  by_cases hk : k = i
  · subst hk
    simp [hil] at hy
    subst hy
    by_cases hjm : j = m
    · subst hjm
      rw [if_pos rfl]
      have hlt : k * n + j < cur.size := by
        rw [h1]
        calc k * n + j < k * n + n := by omega
          _ = (k + 1) * n := by rw [Nat.add_mul, Nat.one_mul]
          _ ≤ cap * n := Nat.mul_le_mul_right _ (by have := h.le; omega)
      rw [if_pos hlt]
      rw [hc, List.getElem?_set] at hu
      simp [hn x, hj] at hu
      rw [hu]
    · rw [if_neg (by omega)]
      refine h2 k x hx m u ?_
      rw [hc, List.getElem?_set, if_neg hjm] at hu
      exact hu
  · rw [if_neg ?_]
    · rw [List.getElem?_set, if_neg (fun e => hk e.symm)] at hy
      exact h2 k y hy m u hu
    · intro e
      rcases Nat.lt_or_gt_of_ne hk with hlt | hlt
      · have : (k + 1) * n ≤ i * n := Nat.mul_le_mul_right _ hlt
        rw [Nat.add_mul, Nat.one_mul] at this
        omega
      · have : (i + 1) * n ≤ k * n := Nat.mul_le_mul_right _ hlt
        rw [Nat.add_mul, Nat.one_mul] at this
        omega

theorem OwnRow.flat {α : Type} {w : World} {base g : Nat} {T : TypeId} {n : Nat} {cells : α → List Value} {cap : Nat} {l : List α} (h : OwnRow w base g T n cells cap l) : FlatRow w n cells (some ⟨g, 0, none⟩) l.length cap l :=
  ⟨rfl, h.le, h.max, fun hn => by simp at hn, fun i x hx => ⟨g, 0, rfl, fun j v hv => by rw [Nat.zero_add]; exact h.cell hx hv⟩⟩

theorem flatMap_get {α : Type} {n : Nat} (cells : α → List Value) (hn : ∀ x, (cells x).length = n) : ∀ (l : List α) (i : Nat) (x : α), l[i]? = some x → ∀ (j : Nat) (v : Value), (cells x)[j]? = some v → (l.flatMap cells)[i * n + j]? = some v
  | [], i, x, h, _, _, _ => by simp at h
  | y :: r, 0, x, h, j, v, hv => by
    simp at h; subst h
    have hj : j < (cells y).length := (List.getElem?_eq_some_iff.1 hv).1
    rw [List.flatMap_cons, Nat.zero_mul, Nat.zero_add, List.getElem?_append_left hj]
    exact hv
  | y :: r, i + 1, x, h, j, v, hv => by
    rw [List.flatMap_cons, List.getElem?_append_right (by rw [hn]; rw [Nat.add_mul]; omega), hn]
    have : (i + 1) * n + j - n = i * n + j := by rw [Nat.add_mul]; omega
    rw [this]
    exact flatMap_get cells hn r i x (by simpa using h) j v hv
theorem flatMap_length {α : Type} {n : Nat} (cells : α → List Value) (hn : ∀ x, (cells x).length = n) : ∀ l : List α, (l.flatMap cells).length = l.length * n
  | [] => by simp
  | y :: r => by rw [List.flatMap_cons, List.length_append, flatMap_length cells hn r, hn, List.length_cons, Nat.add_mul]; omega

/-- From the append law's word to ours. -/
theorem OwnRow.of_owns {α : Type} {w : World} {base : Nat} {T : TypeId} {n : Nat} (cells : α → List Value) (hn : ∀ x, (cells x).length = n) {v : Value} {m : Nat} {l : List α} (hv : v ≠ .slice none 0 0) (h : w.ownsRow base T n v m (l.flatMap cells)) (hl : l.length = m) : ∃ g cap, v = .slice (some ⟨g, 0, none⟩) m cap ∧ OwnRow w base g T n cells cap l := by
  rcases h.2 with ⟨h1, h2⟩ | ⟨g, cap, cur, hv', hg, hb, hle, hmax, hsz, htake⟩
  · exact absurd h1 hv
  · refine ⟨g, cap, hv', hg, by omega, hmax, cur, hb, hsz, fun i x hx j u hu => ?_⟩
    have h3 := flatMap_get cells hn l i x hx j u hu
    rw [← htake, List.getElem?_take] at h3
    split at h3
    · simpa using h3
    · cases h3

/-- The same, nil let in, as a row that reads flat. -/
theorem FlatRow.of_owns {α : Type} {w : World} {base : Nat} {T : TypeId} {n : Nat} (cells : α → List Value) (hn : ∀ x, (cells x).length = n) (h0 : 0 < n) {v : Value} {m : Nat} {l : List α} (h : w.ownsRow base T n v m (l.flatMap cells)) : ∃ a c, v = .slice a m c ∧ FlatRow w n cells a m c l := by
  have hl : l.length = m := by
    have := h.1
    rw [flatMap_length cells hn] at this
    exact Nat.eq_of_mul_eq_mul_right h0 this
  by_cases hv : v = .slice none 0 0
  · rcases h.2 with ⟨h1, h2⟩ | ⟨g, cap, cur, hv', _⟩
    · subst h2
      exact ⟨none, 0, h1, hl, Nat.le_refl _, Nat.zero_le _, fun _ => ⟨rfl, rfl⟩, fun i x hx => by rw [List.eq_nil_of_length_eq_zero hl] at hx; simp at hx⟩
    · rw [hv'] at hv
      simp at hv
  · obtain ⟨g, cap, hv', ho⟩ := OwnRow.of_owns cells hn hv h hl
    have hf := ho.flat
    rw [hl] at hf
    exact ⟨_, _, hv', hf⟩

/-- The cells of the first m elements, as the append law asks them. -/
theorem FlatRow.news {α : Type} {w : World} {n : Nat} {cells : α → List Value} (hn : ∀ x, (cells x).length = n) (h0 : 0 < n) {ad : Addr} {len cap : Nat} {l : List α} (h : FlatRow w n cells (some ad) len cap l) (m : Nat) :
    ∀ (j : Nat) (u : Value), ((l.take m).flatMap cells)[j]? = some u → w.cell? (ad.add j) = some u := by
  intro j u hu
  have hj : j < ((l.take m).flatMap cells).length := (List.getElem?_eq_some_iff.1 hu).1
  rw [flatMap_length cells hn] at hj
  have hi : j / n < (l.take m).length := (Nat.div_lt_iff_lt_mul h0).2 hj
  have hx : (l.take m)[j / n]? = some (l.take m)[j / n] := List.getElem?_eq_getElem hi
  have hmod : j % n < n := Nat.mod_lt _ h0
  have hjn : j / n * n + j % n = j := Nat.div_add_mod' j n
  generalize (l.take m)[j / n] = x at hx
  have hv : (cells x)[j % n]? = some ((cells x)[j % n]'(by rw [hn]; exact hmod)) := List.getElem?_eq_getElem _
  have h1 := flatMap_get cells hn (l.take m) (j / n) x hx (j % n) _ hv
  rw [hjn, hu] at h1
  have hl : l[j / n]? = some x := by
    rw [List.getElem?_take] at hx
    split at hx
    · exact hx
    · cases hx
  obtain ⟨b, off, hb, hc⟩ := h.at_ _ x hl
  have := hc (j % n) _ hv
  rw [Nat.add_assoc, hjn] at this
  simp at hb
  subst hb
  have hadd : (⟨b, off, none⟩ : Addr).add j = ⟨b, off + j, none⟩ := by unfold Addr.add; split <;> simp_all
  rw [hadd, this]
  simp at h1
  rw [h1]

theorem FlatRow.newsAll {α : Type} {w : World} {n : Nat} {cells : α → List Value} (hn : ∀ x, (cells x).length = n) (h0 : 0 < n) {ad : Addr} {len cap : Nat} {l : List α} (h : FlatRow w n cells (some ad) len cap l) :
    ∀ (j : Nat) (u : Value), (l.flatMap cells)[j]? = some u → w.cell? (ad.add j) = some u := by
  have := h.news hn h0 len
  rwa [List.take_of_length_le (by rw [h.length]; omega)] at this

theorem set_get {α : Type} {l : List α} {k : Nat} {x : α} (h : l[k]? = some x) (y : α) : (l.set k y)[k]? = some y := by
  have hk : k < l.length := (List.getElem?_eq_some_iff.1 h).1
  simp [hk]
theorem get_of_lt {α : Type} (l : List α) {k : Nat} (h : k < l.length) : ∃ x, l[k]? = some x := ⟨l[k], List.getElem?_eq_getElem h⟩

/-- A list whose first k elements have been turned by f. -/
def mixL {α : Type} (f : α → α) (k : Nat) (l : List α) : List α := (l.take k).map f ++ l.drop k
theorem mixL_zero {α : Type} (f : α → α) (l : List α) : mixL f 0 l = l := by simp [mixL]
theorem mixL_full {α : Type} (f : α → α) (k : Nat) (l : List α) (h : l.length ≤ k) : mixL f k l = l.map f := by
  unfold mixL
  rw [List.take_of_length_le h, List.drop_eq_nil_of_le h, List.append_nil]
theorem mixL_length {α : Type} (f : α → α) (k : Nat) (l : List α) : (mixL f k l).length = l.length := by
  unfold mixL
  simp
  omega
theorem mixL_get {α : Type} (f : α → α) {k : Nat} {l : List α} {x : α} (h : l[k]? = some x) : (mixL f k l)[k]? = some x := by
  have hk : k < l.length := (List.getElem?_eq_some_iff.1 h).1
  unfold mixL
  have hl : ((l.take k).map f).length = k := by simp; omega
  rw [List.getElem?_append_right (by omega), hl, Nat.sub_self, List.getElem?_drop]
  exact h
theorem mixL_set {α : Type} (f : α → α) {k : Nat} {l : List α} {x : α} (h : l[k]? = some x) : (mixL f k l).set k (f x) = mixL f (k + 1) l := by
  have hk : k < l.length := (List.getElem?_eq_some_iff.1 h).1
  have hl : ((l.take k).map f).length = k := by simp; omega
  have hd : l.drop k = x :: l.drop (k + 1) := by
    rw [List.drop_eq_getElem_cons hk]
    rw [List.getElem?_eq_getElem hk] at h
    simp at h
    rw [h]
  unfold mixL
  rw [List.set_append_right _ _ (by omega), hl, Nat.sub_self, hd, List.set_cons_zero, take_succ_of h]
  simp

/-- A list whose first k elements have been turned by f, which is told the place. -/
def mixI {α : Type} (f : Nat → α → α) (k : Nat) (l : List α) : List α := (l.take k).mapIdx f ++ l.drop k
theorem mixI_zero {α : Type} (f : Nat → α → α) (l : List α) : mixI f 0 l = l := by simp [mixI]
theorem mixI_full {α : Type} (f : Nat → α → α) (k : Nat) (l : List α) (h : l.length ≤ k) : mixI f k l = l.mapIdx f := by
  unfold mixI
  rw [List.take_of_length_le h, List.drop_eq_nil_of_le h, List.append_nil]
theorem mixI_get {α : Type} (f : Nat → α → α) {k : Nat} {l : List α} {x : α} (h : l[k]? = some x) : (mixI f k l)[k]? = some x := by
  have hk : k < l.length := (List.getElem?_eq_some_iff.1 h).1
  unfold mixI
  have hl : ((l.take k).mapIdx f).length = k := by simp; omega
  rw [List.getElem?_append_right (by omega), hl, Nat.sub_self, List.getElem?_drop]
  exact h
theorem mixI_set {α : Type} (f : Nat → α → α) {k : Nat} {l : List α} {x : α} (h : l[k]? = some x) : (mixI f k l).set k (f k x) = mixI f (k + 1) l := by
  have hk : k < l.length := (List.getElem?_eq_some_iff.1 h).1
  have hl : ((l.take k).mapIdx f).length = k := by simp; omega
  have hd : l.drop k = x :: l.drop (k + 1) := by
    rw [List.drop_eq_getElem_cons hk]
    rw [List.getElem?_eq_getElem hk] at h
    simp at h
    rw [h]
  have hm : min k l.length = k := by omega
  unfold mixI
  rw [List.set_append_right _ _ (by omega), hl, Nat.sub_self, hd, List.set_cons_zero, take_succ_of h, List.mapIdx_append]
  simp [hm]

theorem tmod3 (k : Int) : -3 < k.tmod 3 ∧ k.tmod 3 < 3 := by
  rw [Int.tmod_eq_emod]
  split <;> omega

end Go.Proofs.Ythfdhamencefiaa
