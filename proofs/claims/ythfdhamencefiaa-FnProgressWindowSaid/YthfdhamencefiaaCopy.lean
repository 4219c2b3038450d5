/-
  'copy' of rows whose elements have n cells each. No program in sight.
-/
import Derived.WalkKit
import Derived.Laws.CopyOwn
import Derived.Test.YthfdhamencefiaaBase
import Derived.Test.YthfdhamencefiaaSees
set_option linter.unusedVariables false
set_option linter.unusedSimpArgs false
namespace Go.Proofs.Ythfdhamencefiaa
open Go.RowKit

theorem run_copy_rowN {P : Program} (w : World) (dT sT ty elem : TypeId) (g o dLen dCap n : Nat) (a : Addr) (sLen sCap : Nat) (cur : Array Value) (t : TypeId) (cs : List Value)
    (hu : P.underlying dT = some (.slice elem)) (hs : (P.info? elem).map (·.size) = some n)
    (hg : w.heap[g]? = some (.cells cur t (0, 0))) (hn : cs.length = Nat.min sLen dLen * n)
    (hsrc : ∀ j v, cs[j]? = some v → w.cell? (a.add j) = some v) (hfit : o + cs.length ≤ cur.size) (h1 : ∀ v ∈ cs, v.oneCell' = true) :
    (Builtin.copy_ #[dT, sT] ty #[.slice (some ⟨g, o, none⟩) dLen dCap, .slice (some a) sLen sCap]).run P w =
      .ok (goInt (Nat.min sLen dLen)) (w.setRow g (cur.toList.take o ++ cs ++ cur.toList.drop (o + cs.length)).toArray) := by
  have hl := run_loadCells_list (P := P) w a cs hsrc
  have hst := run_storeCells_at P g o t cs 0 cur w hg (by simpa using hfit) h1
  cases hq : P.info? elem with
  | none => simp [hq] at hs
  | some i =>
    have hi : i.size = n := by simpa [hq] using hs
    simp [Builtin.copy_, run_underlying hu, Builtin.lenOf, Builtin.firstCells, sizeOf, typeInfo, hq, hi, ← hn, hl, hst]

theorem run_copy_noneN {P : Program} (w : World) (dT sT ty elem : TypeId) (d a : Option Addr) (dLen dCap sLen sCap : Nat) (hu : P.underlying dT = some (.slice elem)) (hs : ((P.info? elem).map (·.size)).isSome = true) (hn : Nat.min sLen dLen = 0) :
    (Builtin.copy_ #[dT, sT] ty #[.slice d dLen dCap, .slice a sLen sCap]).run P w = .ok (goInt 0) w := by
  cases hq : P.info? elem with
  | none => simp [hq] at hs
  | some i =>
    have hl : ∀ (x : Addr), (loadCells x 0).run P w = .ok #[] w := fun x => by simpa using run_loadCells_list (P := P) w x [] (by simp)
    cases d <;> cases a <;> simp [Builtin.copy_, run_underlying hu, Builtin.lenOf, Builtin.firstCells, sizeOf, typeInfo, hq, hn, storeCells, hl]

theorem wpList_copy_spliceN {P : Program} {w : World} {ops : Array Oper} {rest : List Oper} {o : Oper} {a : Act} {Q : Exit → Act → World → Prop} (hgd : o.guard = none) (d s : Operand) (dT sT : TypeId)
    (ho : o.op = .call { callee := .builtin .copy, args := #[d, s], argTypes := #[dT, sT] }) (elem : TypeId) (n : Nat) (h0 : 0 < n) (hu : P.underlying dT = some (.slice elem)) (hsz : (P.info? elem).map (·.size) = some n)
    (dp sp : Option Addr) (dLen dCap sLen sCap : Nat) (hd : a.eval d = .slice dp dLen dCap) (hs : a.eval s = .slice sp sLen sCap)
    (g off : Nat) (cur : List Value) (t : TypeId) (hg : w.heap[g]? = some (.cells cur.toArray t (0, 0))) (cs : List Value) (m : Nat) (hm : m = Nat.min sLen dLen) (hn : cs.length = m * n)
    (hpos : 0 < cs.length → dp = some ⟨g, off, none⟩ ∧ ∃ ad, sp = some ad ∧ ∀ j v, cs[j]? = some v → w.cell? (ad.add j) = some v)
    (hfit : off + cs.length ≤ cur.length) (h1 : ∀ v ∈ cs, v.oneCell' = true) (B : Nat) (w0 : World) (hb : Below B w0 w) (hBg : B ≤ g)
    (h : ∀ w', Hid (w'.heap[g]? = some (.cells (splice cur off cs).toArray t (0, 0))) → Below B w0 w' → wpList P ops Q rest (a.put o.dst (goInt m)) w') :
    wpList P ops Q (o :: rest) a w := by
  subst hm
  refine wpList_plain hgd fun K hK => ?_
  by_cases hz : cs.length = 0
  · obtain rfl : cs = [] := List.eq_nil_of_length_eq_zero hz
    have hmin : Nat.min sLen dLen = 0 := by
      rcases Nat.mul_eq_zero.1 hn.symm with h | h
      · exact h
      · omega
    have hrun := run_copy_noneN (P := P) w dT sT o.type elem dp sp dLen dCap sLen sCap hu (by rw [hsz]; rfl) hmin
    unfold Oper.wp
    simp [execOp, ho, resolve, invoke, builtin, hd, hs, hrun, Result.andThen]
    rw [hmin] at h
    exact hK _ _ (h w (show _ = _ by simpa [splice] using hg) hb)
  · obtain ⟨rfl, ad, rfl, hsrc⟩ := hpos (by omega)
    have hrun := run_copy_rowN (P := P) w dT sT o.type elem g off dLen dCap n ad sLen sCap cur.toArray t cs hu hsz hg hn hsrc (by simpa using hfit) h1
    unfold Oper.wp
    simp [execOp, ho, resolve, invoke, builtin, hd, hs, hrun, Result.andThen]
    exact hK _ _ (h _ (show _ = _ by simpa [splice] using setRow_heap w g _ _ t _ hg) (below_setRow hb hBg _))

theorem made_cell (zs : Array Value) (i j k : Nat) (hj : j < zs.size) (hi : i * zs.size + j < k) : (madeCells zs k)[i * zs.size + j]? = zs[j]? := by
  have h1 : (i * zs.size + j) % zs.size = j := by
    rw [Nat.mul_comm, Nat.mul_add_mod, Nat.mod_eq_of_lt hj]
  simp [madeCells, hi, h1, hj]

/-- A new row of zeros, the first elements laid over it. -/
theorem OwnRow.of_splice {α : Type} {w : World} {base g : Nat} {T : TypeId} {n : Nat} {cells : α → List Value} (hn : ∀ x, (cells x).length = n) (zero : α) (zs : Array Value) (hz : cells zero = zs.toList) (R : List α) (k : Nat) (hk : R.length ≤ k) (hm : k ≤ maxLen) (hg : base ≤ g)
    (hb : Blk w g (splice (madeCells zs (k * n)).toList 0 (R.flatMap cells)).toArray T) : OwnRow w base g T n cells k (R ++ List.replicate (k - R.length) zero) := by
  have hzs : zs.size = n := by
    have := hn zero
    rw [hz] at this
    simpa using this
  have hfl := flatMap_length cells hn R
  have hle : (R.flatMap cells).length ≤ k * n := by rw [hfl]; exact Nat.mul_le_mul_right _ hk
  refine ⟨hg, by simp; omega, hm, _, hb, ?_, fun i x hx j v hv => ?_⟩
  · have hle' : 0 + (R.flatMap cells).length ≤ (madeCells zs (k * n)).toList.length := by
      rw [Nat.zero_add, Array.length_toList (xs := madeCells zs (k * n)), size_madeCells]
      exact hle
    rw [List.size_toArray, length_splice _ _ _ hle']
    simp [size_madeCells]
  · have hj : j < n := by rw [← hn x]; exact (List.getElem?_eq_some_iff.1 hv).1
    rw [List.getElem?_toArray]
    unfold splice
    simp only [List.take_zero, List.nil_append, Nat.zero_add]
    by_cases hi : i < R.length
    · rw [List.getElem?_append_left hi] at hx
      have h1 : i * n + j < (R.flatMap cells).length := by
        rw [hfl]
        calc i * n + j < i * n + n := by omega
          _ = (i + 1) * n := by rw [Nat.add_mul, Nat.one_mul]
          _ ≤ R.length * n := Nat.mul_le_mul_right _ hi
      rw [List.getElem?_append_left h1]
      exact flatMap_get cells hn R i x hx j v hv
    · rw [List.getElem?_append_right (by omega), List.getElem?_replicate] at hx
      split at hx
      · rename_i hi2
        simp at hx
        subst hx
        have h1 : R.length * n ≤ i * n + j := by
          have : R.length * n ≤ i * n := Nat.mul_le_mul_right _ (by omega)
          omega
        have h2 : i * n + j < k * n := by
          calc i * n + j < i * n + n := by omega
            _ = (i + 1) * n := by rw [Nat.add_mul, Nat.one_mul]
            _ ≤ k * n := Nat.mul_le_mul_right _ (by omega)
        rw [List.getElem?_append_right (by rw [hfl]; exact h1), hfl, List.getElem?_drop]
        have h3 : R.length * n + (i * n + j - R.length * n) = i * n + j := by omega
        rw [h3, Array.getElem?_toList]
        subst hzs
        rw [made_cell zs i j _ hj h2, ← Array.getElem?_toList, ← hz]
        exact hv
      · cases hx

/-- the block of a row of the call's own -/
theorem owns_blkN {w : World} {base : Nat} {e : TypeId} {g n c s : Nat} {xs : List Value} (h : w.ownsRow base e s (.slice (some ⟨g, 0, none⟩) n c) n xs) : base ≤ g ∧ ∃ cur : Array Value, Blk w g cur e ∧ cur.size = c * s ∧ n ≤ c ∧ c ≤ maxLen ∧ cur.toList.take (n * s) = xs := by
  rcases h.2 with ⟨h1, h2⟩ | ⟨g', cap, cur, hv', hg, hb, hle, hmax, hsz, htake⟩
  · simp at h1
  · simp at hv'
    obtain ⟨rfl, rfl⟩ := hv'
    exact ⟨hg, cur, hb, hsz, hle, hmax, htake⟩

end Go.Proofs.Ythfdhamencefiaa
