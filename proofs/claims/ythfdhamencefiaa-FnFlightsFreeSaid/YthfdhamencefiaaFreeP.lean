/-
  FnFlightsFree's plain law: of flights with rising indexes those up to one are freed. No program in sight.
-/
import Derived.Test.YthfdhamencefiaaRows
import Derived.Test.YthfdhamencefiaaBase
import Derived.Test.YthfdhamencefiaaSees
import Derived.Test.YthfdhamencefiaaInfl
import Derived.Test.YthfdhamencefiaaInflF
import Derived.Test.YthfdhamencefiaaFlight
import Derived.Test.YthfdhamencefiaaFlightB
import Derived.Test.YthfdhamencefiaaFlights
set_option linter.unusedVariables false
set_option linter.unusedSimpArgs false
namespace Go.Proofs.Ythfdhamencefiaa
open Go.RowKit

def addC (x : Int) : FCall := ⟨1, x, 1⟩
def addP (x : Int) : Int × Int := (x, 1)

theorem notFull {size : Nat} {L : List (Int × Int)} (h : L.length < size) : fullB size 0 L = false := by
  unfold fullB; simp; omega

theorem runAdds (size : Nat) (rest : List FCall) : ∀ (cs : List Int) (L : List (Int × Int)), L.length + cs.length ≤ size →
    ∃ outs, outs.length = cs.length ∧ (cs ≠ [] → outs[cs.length - 1]? = some (some (L ++ cs.map addP))) ∧ flRun size 0 L (cs.map addC ++ rest) = outs ++ flRun size 0 (L ++ cs.map addP) rest
  | [], L, _ => ⟨[], rfl, fun h => absurd rfl h, by simp⟩
  | x :: r, L, h => by
    have hf : fullB size 0 L = false := notFull (by simp at h; omega)
    have hs : flStep size 0 L (addC x) = some (L ++ [addP x]) := by simp [flStep, addC, addP, hf]
    obtain ⟨outs, h1, h2, h3⟩ := runAdds size rest r (L ++ [addP x]) (by simp at h ⊢; omega)
    refine ⟨some (L ++ [addP x]) :: outs, by simp [h1], fun _ => ?_, ?_⟩
    · cases r with
      | nil => simp
      | cons y r' =>
        have := h2 (by simp)
        simp only [List.length_cons, Nat.add_sub_cancel, List.getElem?_cons_succ] at this ⊢
        rw [this]; simp
    · rw [List.map_cons, List.cons_append, flRun, hs]
      simp only [h3, List.cons_append, List.append_assoc, List.map_cons, List.singleton_append, List.nil_append]

theorem freed_idem (to : Int) : ∀ L : List (Int × Int), freed to (freed to L) = freed to L
  | [] => rfl
  | x :: r => by
    by_cases h : x.1 ≤ to
    · have : freed to (x :: r) = freed to r := by unfold freed; rw [List.dropWhile_cons_of_pos (by simpa using h)]
      rw [this]; exact freed_idem to r
    · have : freed to (x :: r) = x :: r := by unfold freed; rw [List.dropWhile_cons_of_neg (by simpa using h)]
      rw [this, this]

def above (to : Int) (l : List Int) : Nat := (l.filter fun x => decide (to < x)).length

theorem freed_above (to : Int) : ∀ l : List Int, l.Pairwise (· < ·) → (freed to (l.map addP)).length = above to l
  | [], _ => rfl
  | x :: r, h => by
    rw [List.pairwise_cons] at h
    by_cases hx : x ≤ to
    · have e : freed to ((x :: r).map addP) = freed to (r.map addP) := by unfold freed; rw [List.map_cons, List.dropWhile_cons_of_pos (by show decide (x ≤ to) = true; exact decide_eq_true hx)]
      rw [e, freed_above to r h.2]
      unfold above
      rw [List.filter_cons_of_neg (by simp; omega)]
    · have e : freed to ((x :: r).map addP) = (x :: r).map addP := by unfold freed; rw [List.map_cons, List.dropWhile_cons_of_neg (by show ¬ decide (x ≤ to) = true; simpa using hx)]
      rw [e]
      unfold above
      rw [List.filter_eq_self.2 (fun a ha => by
        rcases List.mem_cons.1 ha with rfl | ha
        · simp; omega
        · have := h.1 a ha; simp; omega)]
      simp

/-- What the row of calls answers, as the law reads it. -/
theorem freeRun (size : Nat) (to : Int) (cs : List Int) (hp : cs.Pairwise (· < ·)) (hl : cs.length ≤ size) :
    ∃ (outs : List (Option (List (Int × Int)))) (D : List (Int × Int)), flRun size 0 [] (cs.map addC ++ [⟨2, to, 0⟩, ⟨2, to, 0⟩]) = outs ∧ outs.length = cs.length + 2 ∧ outs[cs.length]? = some (some D) ∧ outs[cs.length + 1]? = some (some D) ∧ D.length = above to cs ∧
      (cs.length ≠ 0 → outs[cs.length - 1]? = some (some (cs.map addP))) := by
  obtain ⟨outs, h1, h2, h3⟩ := runAdds size [⟨2, to, 0⟩, ⟨2, to, 0⟩] cs [] (by simpa using hl)
  rw [List.nil_append] at h2 h3
  have hs : ∀ M, flStep size 0 M ⟨2, to, 0⟩ = some (freed to M) := fun M => by simp [flStep]
  have e : flRun size 0 (cs.map addP) [⟨2, to, 0⟩, ⟨2, to, 0⟩] = [some (freed to (cs.map addP)), some (freed to (cs.map addP))] := by
    simp only [flRun, hs, freed_idem]
  rw [e] at h3
  refine ⟨_, freed to (cs.map addP), h3, by simp [h1], ?_, ?_, freed_above to cs hp, fun hn => ?_⟩
  · rw [List.getElem?_append_right (by omega), h1, Nat.sub_self]; rfl
  · rw [List.getElem?_append_right (by omega), h1, Nat.add_sub_cancel_left]; rfl
  · rw [List.getElem?_append_left (by omega)]
    exact h2 (by intro h; rw [h] at hn; exact hn rfl)

theorem above_snoc (to : Int) (l : List Int) (x : Int) : above to (l ++ [x]) = above to l + (if to < x then 1 else 0) := by
  unfold above
  rw [List.filter_append, List.length_append]
  congr 1
  by_cases h : to < x <;> simp [h]
theorem above_le (to : Int) (l : List Int) : above to l ≤ l.length := List.length_filter_le _ _
theorem pairwise_snoc {l : List Int} (h : l.Pairwise (· < ·)) {x : Int} (hx : ∀ y, l.getLast? = some y → y < x) : (l ++ [x]).Pairwise (· < ·) := by
  rw [List.pairwise_append]
  refine ⟨h, by simp, fun a ha b hb => ?_⟩
  simp at hb
  subst hb
  obtain ⟨y, hy⟩ : ∃ y, l.getLast? = some y := by
    cases hl : l.getLast? with
    | none => rw [List.getLast?_eq_none_iff] at hl; rw [hl] at ha; cases ha
    | some y => exact ⟨y, rfl⟩
  have := hx y hy
  obtain ⟨r, rfl⟩ := List.getLast?_eq_some_iff.1 hy
  rcases List.mem_append.1 ha with h1 | h1
  · have := (List.pairwise_append.1 h).2.2 a h1 y (by simp); omega
  · simp at h1; omega
end Go.Proofs.Ythfdhamencefiaa
