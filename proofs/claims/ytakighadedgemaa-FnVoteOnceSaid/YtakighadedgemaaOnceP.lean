/-
  FnVoteOnce's plain law: each voter votes for one at most: one at most wins. No program in sight.
-/
import Derived.Test.YtakighadedgemaaRows
import Derived.Test.YtakighadedgemaaBase
import Derived.Test.YtakighadedgemaaVoteP
set_option linter.unusedVariables false
set_option linter.unusedSimpArgs false
namespace Go.Proofs.Ytakighadedgemaa
open Go.RowKit

def balOf (f : Int → Bool) (ks : List Int) : List (Int × Bool) := ks.map fun x => (x, f x)
theorem balOf_snoc (f : Int → Bool) (ks : List Int) (x : Int) : balOf f (ks ++ [x]) = balOf f ks ++ [(x, f x)] := by simp [balOf]
theorem vote_fold (f : Int → Bool) (y : Int) : ∀ (ks : List Int) (a : Option Bool), (balOf f ks).foldl (voteStep y) a = if y ∈ ks then some (f y) else a
  | [], a => by simp [balOf]
  | x :: r, a => by
    have ih := vote_fold f y r
    show (balOf f r).foldl (voteStep y) (voteStep y a (x, f x)) = _
    rw [ih]
    unfold voteStep
    by_cases hr : y ∈ r
    · rw [if_pos hr, if_pos (by simp [hr])]
    · rw [if_neg hr]
      by_cases hx : x = y
      · subst hx; simp
      · rw [if_neg hx, if_neg (by simp [hr]; exact fun e => hx e.symm)]
theorem voteOf_balOf (f : Int → Bool) {ks : List Int} {y : Int} (h : y ∈ ks) : voteOf y (balOf f ks) = some (f y) := by
  unfold voteOf
  rw [vote_fold, if_pos h]
theorem maj_balOf (f : Int → Bool) {ks ids : List Int} (h : ∀ x, x ∈ ids → x ∈ ks) : majR ids (balOf f ks) = majN (uniq ids).length ((uniq ids).filter f).length 0 := by
  unfold majR majOn
  have e1 : (uniq ids).filter (isYes (balOf f ks)) = (uniq ids).filter f := by
    refine List.filter_congr fun x hx => ?_
    unfold isYes
    rw [voteOf_balOf f (h x ((mem_uniq ids x).1 hx))]
    cases f x <;> rfl
  have e2 : (uniq ids).filter (isOpen (balOf f ks)) = [] := by
    rw [List.filter_eq_nil_iff]
    intro x hx
    unfold isOpen
    rw [voteOf_balOf f (h x ((mem_uniq ids x).1 hx))]
    simp
  rw [e1, e2]
  rfl
theorem two_filters (f g : Int → Bool) (hd : ∀ x, f x = true → g x = false) : ∀ l : List Int, (l.filter f).length + (l.filter g).length ≤ l.length
  | [] => by simp
  | x :: r => by
    have ih := two_filters f g hd r
    rw [List.filter_cons, List.filter_cons]
    cases hf : f x with
    | true =>
      have := hd x hf
      simp [this]
      omega
    | false =>
      cases hg : g x <;> simp <;> omega
theorem uniq_ne {ids : List Int} (h : ids ≠ []) : (uniq ids).length ≠ 0 := by
  intro e
  obtain ⟨x, r, rfl⟩ := List.exists_cons_of_ne_nil h
  have : x ∈ uniq (x :: r) := (mem_uniq _ _).2 (by simp)
  rw [List.eq_nil_of_length_eq_zero e] at this
  cases this
/-- both results told; not both won, if there is a voter -/
theorem maj_once (f g : Int → Bool) (hd : ∀ x, f x = true → g x = false) {ks ids : List Int} (h : ∀ x, x ∈ ids → x ∈ ks) :
    (majR ids (balOf f ks) = 2 ∨ majR ids (balOf f ks) = 3) ∧ (majR ids (balOf g ks) = 2 ∨ majR ids (balOf g ks) = 3) ∧ (ids ≠ [] → majR ids (balOf f ks) = 2 ∨ majR ids (balOf g ks) = 2) := by
  rw [maj_balOf f h, maj_balOf g h]
  have := two_filters f g hd (uniq ids)
  have hn : ids ≠ [] → (uniq ids).length ≠ 0 := uniq_ne
  generalize (uniq ids).length = n at *
  generalize ((uniq ids).filter f).length = a at *
  generalize ((uniq ids).filter g).length = b at *
  unfold majN
  refine ⟨?_, ?_, fun hne => ?_⟩
  · split
    · simp
    · split
      · simp
      · rw [if_neg (by omega)]; simp
  · split
    · simp
    · split
      · simp
      · rw [if_neg (by omega)]; simp
  · have h0 := hn hne
    rw [if_neg h0, if_neg h0]
    by_cases h1 : n / 2 + 1 ≤ a
    · right; rw [if_neg (by omega), if_neg (by omega)]
    · left; rw [if_neg h1, if_neg (by omega)]
theorem joint_two {a b : Int} (ha : a = 2 ∨ a = 3) (hb : b = 2 ∨ b = 3) : (jointN a b = 2 ∨ jointN a b = 3) ∧ (a = 2 → jointN a b = 2) := by
  rcases ha with rfl | rfl <;> rcases hb with rfl | rfl <;> simp [jointN]

/-- What FnVoteOnce asks, in plain words. -/
theorem voteOnce (f g : Int → Bool) (hd : ∀ x, f x = true → g x = false) {ks l1 l2 : List Int} (hm : ∀ x, x ∈ ks ↔ x ∈ l1 ++ l2) (h1 : l1 ≠ []) :
    ∃ x y v w : Int, majR l1 (balOf f ks) = x ∧ majR l1 (balOf g ks) = y ∧ jointN (majR l1 (balOf f ks)) (majR l2 (balOf f ks)) = v ∧ jointN (majR l1 (balOf g ks)) (majR l2 (balOf g ks)) = w ∧
      ((x = 2 ∧ y = 2) ∨ (x = 2 ∧ y = 3) ∨ (x = 3 ∧ y = 2)) ∧ ((v = 2 ∧ w = 2) ∨ (v = 2 ∧ w = 3) ∨ (v = 3 ∧ w = 2)) := by
  obtain ⟨p1, p2, p3⟩ := maj_once f g hd (ks := ks) (ids := l1) (fun x hx => (hm x).2 (by simp [hx]))
  obtain ⟨q1, q2, -⟩ := maj_once f g hd (ks := ks) (ids := l2) (fun x hx => (hm x).2 (by simp [hx]))
  have p3 := p3 h1
  obtain ⟨j1, j2⟩ := joint_two p1 q1
  obtain ⟨j3, j4⟩ := joint_two p2 q2
  refine ⟨_, _, _, _, rfl, rfl, rfl, rfl, ?_, ?_⟩
  · omega
  · rcases p3 with h | h
    · have := j2 h
      rcases j3 with e | e
      · exact .inl ⟨this, e⟩
      · exact .inr (.inl ⟨this, e⟩)
    · have := j4 h
      rcases j1 with e | e
      · exact .inl ⟨e, this⟩
      · exact .inr (.inr ⟨e, this⟩)
end Go.Proofs.Ytakighadedgemaa
