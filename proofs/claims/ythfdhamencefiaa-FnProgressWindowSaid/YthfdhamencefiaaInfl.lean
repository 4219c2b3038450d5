/-
  Inflights: a ring of what is in flight, and its calls.
-/
import Derived.Test.YthfdhamencefiaaRows
import Derived.Test.YthfdhamencefiaaBase
import Derived.Test.YthfdhamencefiaaSees
import Derived.Test.YthfdhamencefiaaCopy
import Derived.Deep.QuietTactic
import Derived.BigQuiet
import Derived.IntWalk
set_option linter.unusedVariables false
set_option linter.unusedSimpArgs false
namespace Go.Proofs.Ythfdhamencefiaa
open Go.RowKit

/-- One in flight: index and bytes. -/
def flC (x : Int × Int) : List Value := [.int .u64 x.1, .int .u64 x.2]
theorem flC_length (x : Int × Int) : (flC x).length = 2 := rfl
/-- The bytes of all. -/
def rawB : List (Int × Int) → Int
  | [] => 0
  | x :: r => x.2 + rawB r
theorem rawB_append (l : List (Int × Int)) : ∀ k : List (Int × Int), rawB (k ++ l) = rawB k + rawB l
  | [] => by simp [rawB]
  | x :: r => by rw [List.cons_append, rawB, rawB_append l r, rawB]; omega
def sumB (l : List (Int × Int)) : Int := rawB l % 18446744073709551616
def fullB (size : Nat) (max : Int) (l : List (Int × Int)) : Bool := decide (l.length = size) || (decide (max ≠ 0) && decide (max ≤ sumB l))

/-- The place of the j-th one. -/
def pos (start size j : Nat) : Nat := if start + j < size then start + j else start + j - size

def RingRow (w : World) (v : Value) (R : List (Int × Int)) : Prop :=
  (v = .slice none 0 0 ∧ R = []) ∨ ∃ g cap, v = .slice (some ⟨g, 0, none⟩) R.length cap ∧ OwnRow w 0 g 103 2 flC cap R

theorem RingRow.chg {w w' : World} {v : Value} {R : List (Int × Int)} (h : RingRow w v R) {F : Nat → Prop} (e : Chg F w w') (hF : ∀ k, v.ownBlock = some k → ¬ F k) : RingRow w' v R := by
  rcases h with h | ⟨g, cap, rfl, ho⟩
  · exact .inl h
  · obtain ⟨cur, hb, h1, h2⟩ := ho.blk
    exact .inr ⟨g, cap, rfl, ho.base_le, ho.le, ho.max, cur, hb.chg e (hF g rfl), h1, h2⟩

/-- The block of an Inflights: of size 'size', with at most 'max' bytes (0: any number), in which L are in flight; v: its buffer. -/
structure InfP (w : World) (b : Nat) (v : Value) (size : Nat) (max : Int) (L : List (Int × Int)) : Prop where
  room : size ≤ 1000
  most : 0 ≤ max ∧ max < 18446744073709551616
  rng : ∀ x, x ∈ L → (0 ≤ x.1 ∧ x.1 < 18446744073709551616) ∧ (0 ≤ x.2 ∧ x.2 < 18446744073709551616)
  len : L.length ≤ size
  ring : ∃ (start : Nat) (R : List (Int × Int)), Blk w b #[.int .i64 start, .int .i64 L.length, .int .u64 (sumB L), .int .i64 size, .int .u64 max, v] 99 ∧ RingRow w v R ∧
    R.length ≤ size ∧ (start < size ∨ start = 0) ∧ (start + L.length ≤ R.length ∨ R.length = size) ∧ ∀ j x, L[j]? = some x → R[pos start size j]? = some x

/-- What a call on it may turn. -/
def InfF (b : Nat) (v : Value) (k : Nat) : Prop := k = b ∨ v.ownBlock = some k

theorem InfP.chg {w w' : World} {b : Nat} {v : Value} {size : Nat} {max : Int} {L : List (Int × Int)} (h : InfP w b v size max L) {F : Nat → Prop} (e : Chg F w w') (hF : ∀ k, F k → ¬ InfF b v k) : InfP w' b v size max L := by
  obtain ⟨h1, h2, h3, h4, start, R, h5, h6, h7⟩ := h
  exact ⟨h1, h2, h3, h4, start, R, h5.chg e (fun hb => hF b hb (.inl rfl)), h6.chg e (fun k hk hFk => hF k hFk (.inr hk)), h7⟩
theorem InfP.ext {w w' : World} {b : Nat} {v : Value} {size : Nat} {max : Int} {L : List (Int × Int)} (h : InfP w b v size max L) (e : Ext w w') : InfP w' b v size max L :=
  h.chg (Chg.of_ext (F := fun _ => False) e) (fun k hk => hk.elim)

set_option maxHeartbeats 400000 in
theorem newInflights (size : Nat) (max : Int) (w : World) (hs : size ≤ 1000) (hm : 0 ≤ max ∧ max < 18446744073709551616) :
    Calls Try.prog 27 #[.int .i64 size, .int .u64 max] w fun r w' => ∃ b, r = .returned (Value.pointer (some ⟨b, 0, none⟩)) ∧ w.heap.size ≤ b ∧ InfP w' b (.slice none 0 0) size max [] ∧ Ext w w' := by
  go_enter Try.func27, Try.ntmps27
  go_wp2
  refine bodyPost_ret (results_tmp rfl _ _ _) rfl ?_
  exact ⟨_, rfl, Nat.le_refl _, ⟨hs, hm, fun x hx => by simp at hx, Nat.zero_le _, 0, [], Blk.newAt rfl _ _, .inl ⟨rfl, rfl⟩, Nat.zero_le _, .inr rfl, .inl (Nat.le_refl _), fun j x hx => by simp at hx⟩, by (repeat (first | with_reducible exact Ext.refl _ | with_reducible assumption | with_reducible apply Ext.alloc | with_reducible apply Ext.drew | with_reducible apply Ext.drewN | (with_reducible refine Ext.trans ?_ (by assumption)) | ((with_reducible refine Ext.set ?_ ?_ _); rotate_left; (focus (first | (simp; done) | omega | (simp; omega))))))⟩

set_option maxRecDepth 100000 in
set_option maxHeartbeats 1000000 in
theorem full_any (b : Nat) (v : Value) (size : Nat) (max : Int) (L : List (Int × Int)) (w : World) (h : InfP w b v size max L) :
    Calls Try.prog 54 #[(Value.pointer (some ⟨b, 0, none⟩))] w fun r w' => r = .returned (.bool (fullB size max L)) ∧ ∃ n, w' = w.drewN n := by
  obtain ⟨hs, ⟨hm0, hm1⟩, -, -, start, R, hb, -⟩ := h
  have d1 := hb.cell 1
  have d2 := hb.cell 2
  have d3 := hb.cell 3
  have d4 := hb.cell 4
  simp at d1 d2 d3 d4
  obtain ⟨sb, hsb⟩ : ∃ s, s = sumB L := ⟨_, rfl⟩
  obtain ⟨n, hn⟩ : ∃ n, n = L.length := ⟨_, rfl⟩
  rw [← hsb] at d2
  rw [← hn] at d1
  clear hb
  by_cases h1 : n = size
  · have hf : fullB size max L = true := by unfold fullB; rw [← hn]; simp [h1]
    rw [hf]
    subst h1
    clear hf hsb hn
    go_enter Try.func54, Try.ntmps54
    go_wp2_with fail
    go_quiet (fail)
    go_wp2
    refine bodyPost_ret (results_tmp rfl _ _ _) rfl ?_
    exact ⟨rfl, _, rfl⟩
  · have h1e : ¬ (n : Int) = (size : Int) := by omega
    have h1d : ((n : Int) == (size : Int)) = false := by rw [beq_eq_false_iff_ne]; exact h1e
    by_cases h2 : max = 0
    · have hf : fullB size max L = false := by unfold fullB; rw [← hn]; simp [h1, h2]
      rw [hf]
      have h2d : (max != 0) = false := by rw [h2]; rfl
      clear hf hsb hn h2 h1e
      go_enter Try.func54, Try.ntmps54
      go_wp2_with fail
      go_quiet (fail)
      go_wp2
      refine bodyPost_ret (results_tmp rfl _ _ _) rfl ?_
      exact ⟨rfl, _, rfl⟩
    · have h2d : (max != 0) = true := by rw [bne_iff_ne]; exact h2
      have hf : fullB size max L = decide (max ≤ sb) := by unfold fullB; rw [← hn, ← hsb]; simp [h1, h2]
      rw [hf]
      clear hf hsb hn h1e
      go_enter Try.func54, Try.ntmps54
      go_wp2_with fail
      go_quiet (fail)
      go_wp2
      refine bodyPost_ret (results_tmp rfl _ _ _) rfl ?_
      exact ⟨rfl, _, rfl⟩

set_option maxHeartbeats 400000 in
theorem count_any (b : Nat) (v : Value) (size : Nat) (max : Int) (L : List (Int × Int)) (w : World) (h : InfP w b v size max L) :
    Calls Try.prog 53 #[(Value.pointer (some ⟨b, 0, none⟩))] w fun r w' => r = .returned (.int .i64 L.length) ∧ w = w' := by
  obtain ⟨hs, ⟨hm0, hm1⟩, -, -, start, R, hb, -⟩ := h
  have d1 := hb.cell 1
  simp at d1
  clear hb
  go_enter Try.func53, Try.ntmps53
  go_wp2
  refine bodyPost_ret (results_tmp rfl _ _ _) rfl ?_
  exact ⟨rfl, rfl⟩
end Go.Proofs.Ythfdhamencefiaa
