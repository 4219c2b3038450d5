/-
  A list's numbers, each once, rising, as they are picked one by one. No program in sight.
-/
import Derived.Test.YtakighadedgemaaRows
import Derived.Test.YtakighadedgemaaBase
import Derived.Test.YtakighadedgemaaVoteP
set_option linter.unusedVariables false
set_option linter.unusedSimpArgs false
namespace Go.Proofs.Ytakighadedgemaa
open Go.RowKit

def abv (ks : List Int) (y : Int) : Bool := decide (ks.length = 0) || decide (ks.getLast?.getD 0 < y)
def candS (ks : List Int) (c : Option Int) (y : Int) : Option Int := if (abv ks y && (c.isNone || decide (y < c.getD 0))) = true then some y else c
def candF (ks l : List Int) : Option Int := l.foldl (candS ks) none
def CandP (ks l : List Int) (c : Option Int) : Prop := (c = none → ∀ y, y ∈ l → abv ks y = false) ∧ ∀ m, c = some m → m ∈ l ∧ abv ks m = true ∧ ∀ y, y ∈ l → abv ks y = true → m ≤ y
theorem candF_snoc (ks l : List Int) (y : Int) : candF ks (l ++ [y]) = candS ks (candF ks l) y := by simp [candF, List.foldl_append]
theorem cand_step {ks l : List Int} {c : Option Int} (h : CandP ks l c) (y : Int) : CandP ks (l ++ [y]) (candS ks c y) := by
  unfold candS
  by_cases ha : abv ks y = true
  · cases c with
    | none =>
      rw [if_pos (by simp [ha])]
      refine ⟨fun e => (by cases e), fun m hm => ?_⟩
      simp at hm; subst hm
      refine ⟨by simp, ha, fun z hz hz2 => ?_⟩
      rcases List.mem_append.1 hz with h1 | h1
      · rw [h.1 rfl z h1] at hz2; cases hz2
      · simp at h1; omega
    | some m0 =>
      obtain ⟨h1, h2, h3⟩ := h.2 m0 rfl
      by_cases hlt : y < m0
      · rw [if_pos (by simp [ha, hlt])]
        refine ⟨fun e => (by cases e), fun m hm => ?_⟩
        simp at hm; subst hm
        refine ⟨by simp, ha, fun z hz hz2 => ?_⟩
        rcases List.mem_append.1 hz with h4 | h4
        · have := h3 z h4 hz2; omega
        · simp at h4; omega
      · rw [if_neg (by simp [hlt])]
        refine ⟨fun e => (by cases e), fun m hm => ?_⟩
        simp at hm; subst hm
        refine ⟨by simp [h1], h2, fun z hz hz2 => ?_⟩
        rcases List.mem_append.1 hz with h4 | h4
        · exact h3 z h4 hz2
        · simp at h4; omega
  · have ha' : abv ks y = false := by simpa using ha
    rw [if_neg (by simp [ha'])]
    refine ⟨fun e z hz => ?_, fun m hm => ?_⟩
    · rcases List.mem_append.1 hz with h4 | h4
      · exact h.1 e z h4
      · simp at h4; subst h4; exact ha'
    · obtain ⟨h1, h2, h3⟩ := h.2 m hm
      refine ⟨by simp [h1], h2, fun z hz hz2 => ?_⟩
      rcases List.mem_append.1 hz with h4 | h4
      · exact h3 z h4 hz2
      · simp at h4; subst h4; rw [ha'] at hz2; cases hz2
theorem cand_fold (ks : List Int) : ∀ (l2 l1 : List Int) (c : Option Int), CandP ks l1 c → CandP ks (l1 ++ l2) (l2.foldl (candS ks) c)
  | [], l1, c, h => by simpa using h
  | y :: r, l1, c, h => by
    have := cand_fold ks r (l1 ++ [y]) _ (cand_step h y)
    simpa using this
theorem candF_spec (ks l : List Int) : CandP ks l (candF ks l) := by
  have := cand_fold ks l [] none ⟨fun _ y hy => (by cases hy), fun m hm => by cases hm⟩
  rw [List.nil_append] at this
  exact this

structure SetI (ids ks : List Int) : Prop where
  up : ks.Pairwise (· < ·)
  sub : ∀ x, x ∈ ks → x ∈ ids
  down : ∀ y, y ∈ ids → y ∈ ks ∨ ∀ z, z ∈ ks → z < y
theorem SetI.nil (ids : List Int) : SetI ids [] := ⟨List.Pairwise.nil, fun x hx => by (cases hx), fun y _ => .inr fun z hz => by cases hz⟩
theorem last_max {ks : List Int} (h : ks.Pairwise (· < ·)) {y : Int} : abv ks y = true ↔ ∀ z, z ∈ ks → z < y := by
  unfold abv
  cases hl : ks.getLast? with
  | none => rw [List.getLast?_eq_none_iff] at hl; subst hl; simp
  | some t =>
    obtain ⟨r, rfl⟩ := List.getLast?_eq_some_iff.1 hl
    rw [List.pairwise_append] at h
    simp only [List.length_append, List.length_singleton, Option.getD_some, Bool.or_eq_true, decide_eq_true_eq]
    constructor
    · rintro (h0 | h0)
      · omega
      · intro z hz
        rcases List.mem_append.1 hz with h1 | h1
        · have := h.2.2 z h1 t (by simp); omega
        · simp at h1; omega
    · intro h0
      exact .inr (h0 t (by simp))
theorem SetI.nodup {ids ks : List Int} (h : SetI ids ks) : ks.Nodup := by
  have := h.up
  exact this.imp (fun hab => by omega)
theorem SetI.more {ids ks : List Int} (h : SetI ids ks) {m : Int} (hm : candF ks ids = some m) : SetI ids (ks ++ [m]) := by
  obtain ⟨h1, h2, h3⟩ := (candF_spec ks ids).2 m hm
  have hmx := (last_max h.up).1 h2
  refine ⟨?_, fun x hx => ?_, fun y hy => ?_⟩
  · rw [List.pairwise_append]
    exact ⟨h.up, by simp, fun a ha b hb => by simp at hb; subst hb; exact hmx a ha⟩
  · rcases List.mem_append.1 hx with h4 | h4
    · exact h.sub x h4
    · simp at h4; subst h4; exact h1
  · rcases h.down y hy with h4 | h4
    · exact .inl (by simp [h4])
    · have := h3 y hy ((last_max h.up).2 h4)
      by_cases he : y = m
      · exact .inl (by simp [he])
      · refine .inr fun z hz => ?_
        rcases List.mem_append.1 hz with h5 | h5
        · exact h4 z h5
        · simp at h5; omega
theorem SetI.none {ids ks : List Int} (h : SetI ids ks) (hm : candF ks ids = none) : ∀ x, x ∈ ks ↔ x ∈ ids := fun x => by
  refine ⟨h.sub x, fun hx => ?_⟩
  rcases h.down x hx with h4 | h4
  · exact h4
  · have := (candF_spec ks ids).1 hm x hx
    rw [(last_max h.up).2 h4] at this
    cases this
theorem SetI.full {ids ks : List Int} (h : SetI ids ks) (hl : ids.length ≤ ks.length) : ∀ x, x ∈ ks ↔ x ∈ ids := fun x => by
  refine ⟨h.sub x, fun hx => ?_⟩
  rcases h.down x hx with h4 | h4
  · exact h4
  · have hn : (x :: ks).Nodup := List.nodup_cons.2 ⟨fun hx2 => by have := h4 x hx2; omega, h.nodup⟩
    have := nodup_le (x :: ks) ids hn (fun y hy => by
      rcases List.mem_cons.1 hy with rfl | hy
      · exact hx
      · exact h.sub y hy)
    simp only [List.length_cons] at this
    omega
theorem SetI.len {ids ks : List Int} (h : SetI ids ks) : ks.length ≤ ids.length := nodup_le ks ids h.nodup h.sub
end Go.Proofs.Ytakighadedgemaa
