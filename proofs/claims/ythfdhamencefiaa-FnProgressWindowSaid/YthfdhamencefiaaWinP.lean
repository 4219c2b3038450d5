/-
  FnProgressWindow's plain law. No program in sight.
-/
import Derived.Test.YthfdhamencefiaaRows
import Derived.Test.YthfdhamencefiaaBase
import Derived.Test.YthfdhamencefiaaInfl
import Derived.Test.YthfdhamencefiaaInflF
import Derived.Test.YthfdhamencefiaaFlight
import Derived.Test.YthfdhamencefiaaPgs
import Derived.Test.YthfdhamencefiaaPgsU
import Derived.Test.YthfdhamencefiaaPgsC
import Derived.Test.YthfdhamencefiaaPgsX
set_option linter.unusedVariables false
set_option linter.unusedSimpArgs false
namespace Go.Proofs.Ythfdhamencefiaa
open Go.RowKit

def oneC : FCall := ⟨7, 1, 1⟩
def sends (size : Nat) (s : PgS) (i : Nat) : PgS := { s with nx := s.nx + i, pau := if i = 0 then s.pau else decide (s.L.length + i = size), L := s.L ++ (List.range i).map fun (j : Nat) => (s.nx + (j : Int), (1 : Int)) }
theorem full0 (size : Nat) (L : List (Int × Int)) : fullB size 0 L = decide (L.length = size) := by unfold fullB; simp
theorem sent_one (size : Nat) (s : PgS) : s.sentR size 0 1 1 = sends size s 1 := by
  unfold PgS.sentR sends
  rw [full0]
  simp
theorem sends_succ (size : Nat) (s : PgS) (i : Nat) : sends size (sends size s 1) i = sends size s (i + 1) := by
  unfold sends
  simp only [List.range_one, List.map_cons, List.map_nil, List.append_assoc, PgS.mk.injEq, true_and, and_true, List.length_append, List.length_singleton, List.length_cons, List.length_nil]
  refine ⟨by omega, ?_, ?_⟩
  · by_cases hi : i = 0
    · subst hi; simp
    · rw [if_neg hi, if_neg (by omega)]
      congr 1
      simp only [eq_iff_iff]
      omega
  · rw [List.range_succ_eq_map]
    simp only [List.map_cons, List.map_map, List.singleton_append]
    congr 2
    · apply List.map_congr_left
      intro j _
      simp only [Function.comp, Prod.mk.injEq, and_true]
      omega

theorem run_sends (size : Nat) (rest : List FCall) : ∀ (i : Nat) (s : PgS) (all : List (Bool × PgS)), s.st = 1 → s.L.length + i ≤ size → 0 ≤ s.nx → s.nx + i < 18446744073709551616 → pgRun size 0 (sends size s i) rest = some all →
    ∃ outs : List (Bool × PgS), outs.length = i ∧ (∀ j, j < i → outs[j]? = some (false, sends size s (j + 1))) ∧ pgRun size 0 s (List.replicate i oneC ++ rest) = some (outs ++ all)
  | 0, s, all, _, _, _, _, hr => by
    refine ⟨[], rfl, fun j hj => by omega, ?_⟩
    have : sends size s 0 = s := by unfold sends; simp
    rw [this] at hr
    simpa using hr
  | i + 1, s, all, h1, h2, h3, h4, hr => by
    have hf : fullB size 0 s.L = false := by rw [full0]; simp; omega
    have hst : pgStep size 0 s oneC = some (false, sends size s 1) := by
      unfold pgStep oneC
      simp only
      rw [if_neg (by decide), if_pos trivial, if_pos ⟨h1, ⟨by decide, by decide, by omega⟩, by decide, hf⟩, sent_one]
    have e1 : (sends size s 1).st = 1 := h1
    have e2 : (sends size s 1).L.length + i ≤ size := by unfold sends; simp; omega
    have e3 : (sends size s 1).nx = s.nx + 1 := by unfold sends; simp
    obtain ⟨outs, q1, q2, q3⟩ := run_sends size rest i (sends size s 1) all e1 e2 (by rw [e3]; omega) (by rw [e3]; omega) (by rw [sends_succ]; exact hr)
    refine ⟨(false, sends size s 1) :: outs, by simp [q1], fun j hj => ?_, ?_⟩
    · cases j with
      | zero => rfl
      | succ j =>
        rw [List.getElem?_cons_succ, q2 j (by omega), sends_succ]
    · rw [List.replicate_succ, List.cons_append, pgRun, hst]
      simp only
      rw [q3]
      rfl

def win0 (m : Int) : PgS := ⟨m, m + 1, 0, 1, 0, false, false, false, []⟩
def winCalls (m : Int) (size k : Nat) : List FCall := List.replicate size oneC ++ (⟨5, m + k, 0⟩ :: ⟨10, m + k, 0⟩ :: List.replicate k oneC)
def winU (m : Int) (size k : Nat) : PgS := { sends size (win0 m) size with mt := m + k, pau := false }
def winF (m : Int) (size k : Nat) : PgS := { winU m size k with L := freed (m + k) (sends size (win0 m) size).L }
theorem winF_len (m : Int) (size k : Nat) (hk : k ≤ size) : (winF m size k).L.length = size - k := by
  unfold winF sends win0
  simp only [List.nil_append]
  rw [freed_drop (m + k) k]
  · simp
  · intro x hx
    rw [← List.map_take, List.mem_map] at hx
    obtain ⟨j, hj, rfl⟩ := hx
    have := List.mem_take_iff_getElem.1 hj
    obtain ⟨i, hi, he⟩ := this
    simp at hi he
    subst he
    simp
    omega
  · intro x hx
    rw [List.getElem?_map] at hx
    by_cases h : k < size
    · rw [List.getElem?_range h] at hx
      simp at hx
      subst hx
      simp
      omega
    · rw [List.getElem?_eq_none (by simp; omega)] at hx
      cases hx

theorem winRun (m : Int) (size k : Nat) (hm : 0 ≤ m ∧ m < 4611686018427387904) (hs : 1 ≤ size ∧ size ≤ 60) (hk : 1 ≤ k ∧ k ≤ size) :
    ∃ all : List (Bool × PgS), pgRun size 0 (win0 m) (winCalls m size k) = some all ∧ all.length = size + 2 + k ∧ (∀ j, j < size → all[j]? = some (false, sends size (win0 m) (j + 1))) ∧
      all[size]? = some (true, winU m size k) ∧ all[size + 1]? = some (false, winF m size k) ∧ all[size + 1 + k]? = some (false, sends size (winF m size k) k) := by
  have hl := winF_len m size k hk.2
  have hnx : (winF m size k).nx = m + 1 + size := by unfold winF winU sends win0; simp
  obtain ⟨o2, p1, p2, p3⟩ := run_sends size [] k (winF m size k) [] rfl (by rw [hl]; omega) (by rw [hnx]; omega) (by rw [hnx]; omega) rfl
  rw [List.append_nil, List.append_nil] at p3
  have hu : (sends size (win0 m) size).upd (m + k) = winU m size k := by
    unfold PgS.upd winU sends win0
    simp only
    rw [if_neg (by omega), if_pos (by omega)]
  have hr : pgRun size 0 (sends size (win0 m) size) (⟨5, m + k, 0⟩ :: ⟨10, m + k, 0⟩ :: List.replicate k oneC) = some ((true, winU m size k) :: (false, winF m size k) :: o2) := by
    have s1 : pgStep size 0 (sends size (win0 m) size) ⟨5, m + k, 0⟩ = some (true, winU m size k) := by
      unfold pgStep
      simp only
      rw [if_pos trivial, if_pos ⟨by omega, by omega⟩, hu]
      have : (sends size (win0 m) size).mt = m := rfl
      rw [this, decide_eq_false (by omega)]
      rfl
    have s2 : pgStep size 0 (winU m size k) ⟨10, m + k, 0⟩ = some (false, winF m size k) := by
      unfold pgStep
      simp only
      rw [if_neg (by decide), if_neg (by decide), if_pos trivial]
      rfl
    rw [pgRun, s1]
    simp only
    rw [pgRun, s2]
    simp only
    rw [p3]
    rfl
  obtain ⟨o1, q1, q2, q3⟩ := run_sends size _ size (win0 m) _ rfl (by unfold win0; simp) (by unfold win0; simp; omega) (by unfold win0; simp; omega) hr
  refine ⟨_, q3, by simp [q1, p1]; omega, fun j hj => ?_, ?_, ?_, ?_⟩
  · rw [List.getElem?_append_left (by omega)]; exact q2 j hj
  · rw [List.getElem?_append_right (by omega), q1, Nat.sub_self]; rfl
  · rw [List.getElem?_append_right (by omega), q1, show size + 1 - size = 1 by omega]; rfl
  · rw [List.getElem?_append_right (by omega), q1, show size + 1 + k - size = (k - 1) + 1 + 1 by omega, List.getElem?_cons_succ, List.getElem?_cons_succ, p2 (k - 1) (by omega), show k - 1 + 1 = k by omega]
end Go.Proofs.Ythfdhamencefiaa
