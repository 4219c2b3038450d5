/-
  Votes in plain words: a list's different numbers, a voter's last vote, the result. No program in sight.
-/
import Derived.Test.YtakighadedgemaaRows
import Derived.Test.YtakighadedgemaaBase
import Derived.Maps.Own
import Derived.Maps.OwnSet
set_option linter.unusedVariables false
set_option linter.unusedSimpArgs false
namespace Go.Proofs.Ytakighadedgemaa
open Go.RowKit Go.Maps

def addU (a : List Int) (x : Int) : List Int := if x ∈ a then a else a ++ [x]
def uniq (l : List Int) : List Int := l.foldl addU []
theorem uniq_fold : ∀ (l a : List Int), a.Nodup → (l.foldl addU a).Nodup ∧ ∀ x, x ∈ l.foldl addU a ↔ x ∈ a ∨ x ∈ l
  | [], a, h => ⟨h, fun x => by simp⟩
  | y :: r, a, h => by
    have h2 : (addU a y).Nodup ∧ ∀ x, x ∈ addU a y ↔ x ∈ a ∨ x = y := by
      unfold addU
      split
      · rename_i hy
        exact ⟨h, fun x => ⟨fun hx => .inl hx, fun hx => by rcases hx with hx | rfl; exact hx; exact hy⟩⟩
      · rename_i hy
        refine ⟨List.nodup_append.2 ⟨h, by simp, fun a ha b hb => by simp at hb; subst hb; intro e; subst e; exact hy ha⟩, fun x => by simp⟩
    obtain ⟨i1, i2⟩ := uniq_fold r (addU a y) h2.1
    refine ⟨i1, fun x => ?_⟩
    rw [List.foldl_cons, i2, h2.2, List.mem_cons, or_assoc]
theorem uniq_nodup (l : List Int) : (uniq l).Nodup := (uniq_fold l [] List.nodup_nil).1
theorem mem_uniq (l : List Int) (x : Int) : x ∈ uniq l ↔ x ∈ l := by
  have := (uniq_fold l [] List.nodup_nil).2 x
  simpa [uniq] using this
theorem uniq_perm {ks l : List Int} (h : ks.Nodup) (hm : ∀ x, x ∈ ks ↔ x ∈ l) : List.Perm ks (uniq l) :=
  (List.perm_ext_iff_of_nodup h (uniq_nodup l)).2 fun x => by rw [hm, mem_uniq]

def voteStep (x : Int) (a : Option Bool) (b : Int × Bool) : Option Bool := if b.1 = x then some b.2 else a
/-- A voter's last vote. -/
def voteOf (x : Int) (l : List (Int × Bool)) : Option Bool := l.foldl (voteStep x) none
def isYes (l : List (Int × Bool)) (x : Int) : Bool := voteOf x l == some true
def isOpen (l : List (Int × Bool)) (x : Int) : Bool := voteOf x l == none

/-- 1: pending, 2: lost, 3: won. -/
def majN (n yes miss : Nat) : Int := if n = 0 then 3 else if n / 2 + 1 ≤ yes then 3 else if n / 2 + 1 ≤ yes + miss then 1 else 2
def majOn (ks : List Int) (l : List (Int × Bool)) : Int := majN ks.length (ks.filter (isYes l)).length (ks.filter (isOpen l)).length
def majR (ids : List Int) (l : List (Int × Bool)) : Int := majOn (uniq ids) l
theorem majR_of {ks ids : List Int} (h : ks.Nodup) (hm : ∀ x, x ∈ ks ↔ x ∈ ids) (l : List (Int × Bool)) : majOn ks l = majR ids l := by
  have hp := uniq_perm h hm
  unfold majR majOn
  rw [hp.length_eq, (hp.filter (isYes l)).length_eq, (hp.filter (isOpen l)).length_eq]
def jointN (r1 r2 : Int) : Int := if r1 = r2 then r1 else if r1 = 2 ∨ r2 = 2 then 2 else 1
theorem majR_rng (ids : List Int) (l : List (Int × Bool)) : majR ids l = 1 ∨ majR ids l = 2 ∨ majR ids l = 3 := by
  unfold majR majOn majN
  split
  · simp
  · split
    · simp
    · split <;> simp

/-! The maps' readings. -/
def litU (x : Int) : Lit := .int .u64 x
theorem litU_key (x : Int) : WideAt.IsKeyLit (litU x) := by simp [litU, WideAt.IsKeyLit]
theorem litU_inj {x y : Int} (h : litU x = litU y) : x = y := by simpa [litU] using h
theorem same_litU (x y : Int) : (litU x).sameKey (litU y) = decide (x = y) := by
  by_cases h : x = y
  · subst h; rw [WideAt.sameKey_self (litU_key x)]; simp
  · have : (litU x).sameKey (litU y) = false := by
      cases hb : (litU x).sameKey (litU y) with
      | false => rfl
      | true => exact absurd (litU_inj (WideAt.sameKey_eq hb)) h
    rw [this]; simp [h]
def setD (ids : List Int) : DataW Unit := setOf (.agg []) (ids.map litU)
theorem keys_litU (ids : List Int) : ∀ x ∈ ids.map litU, WideAt.IsKeyLit x := by
  intro x hx
  obtain ⟨y, -, rfl⟩ := List.mem_map.1 hx
  exact litU_key y
theorem any_litU (ids : List Int) (x : Int) : (ids.map litU).any (fun y => y.sameKey (litU x)) = decide (x ∈ ids) := by
  rw [List.any_map]
  induction ids with
  | nil => rfl
  | cons y r ih =>
    rw [List.any_cons, ih]
    simp only [Function.comp, same_litU, List.mem_cons]
    by_cases h : y = x
    · subst h; simp
    · have : ¬ x = y := fun e => h e.symm
      simp [h, this]
theorem has_setD (ids : List Int) (x : Int) : has (setD ids) (litU x) = decide (x ∈ ids) := by
  unfold setD
  rw [has_setOf _ _ _ (keys_litU ids), any_litU]
theorem fold_addKey : ∀ (l a : List Int), (l.map litU).foldl addKey (a.map litU) = (l.foldl addU a).map litU
  | [], a => rfl
  | y :: r, a => by
    rw [List.map_cons, List.foldl_cons, List.foldl_cons]
    have e : addKey (a.map litU) (litU y) = (addU a y).map litU := by
      unfold addKey addU
      rw [any_litU]
      by_cases h : y ∈ a
      · simp [h]
      · simp [h]
    rw [e]
    exact fold_addKey r _
theorem size_setD (ids : List Int) : size (setD ids) = (uniq ids).length := by
  unfold setD
  rw [size_setOf _ _ (keys_litU ids)]
  have := fold_addKey ids []
  rw [List.map_nil] at this
  rw [this, List.length_map]
  rfl
theorem setD_snoc (ids : List Int) (x : Int) : setD (ids ++ [x]) = (setD ids).put (litU x) (.agg []) := by
  unfold setD
  rw [List.map_append, List.map_cons, List.map_nil, setOf_snoc]

def balStep (m : DataW Unit) (b : Int × Bool) : DataW Unit := m.put (litU b.1) (.lit (.bool b.2))
def balD (l : List (Int × Bool)) : DataW Unit := l.foldl balStep (.map [])
theorem balD_snoc (l : List (Int × Bool)) (b : Int × Bool) : balD (l ++ [b]) = (balD l).put (litU b.1) (.lit (.bool b.2)) := by simp [balD, balStep, List.foldl_append]
def pick (a : Option Bool) (z : DataW Unit) : DataW Unit := match a with | some v => .lit (.bool v) | none => z
theorem bal_fold (x : Int) : ∀ (l : List (Int × Bool)) (m : DataW Unit) (a : Option Bool), IsMap m → (∀ z, m.atKey (litU x) z = pick a z) → ∀ z, (l.foldl balStep m).atKey (litU x) z = pick (l.foldl (voteStep x) a) z
  | [], m, a, _, h => h
  | b :: r, m, a, hm, h => by
    rw [List.foldl_cons, List.foldl_cons]
    refine bal_fold x r _ _ (hm.put _ _) fun z => ?_
    unfold balStep voteStep
    by_cases hb : b.1 = x
    · rw [if_pos hb, hb, atKey_put_same hm (litU_key x)]; rfl
    · rw [if_neg hb, atKey_put_other (fun e => hb (litU_inj e).symm)]; exact h z
theorem bal_at (x : Int) (l : List (Int × Bool)) (z : DataW Unit) : (balD l).atKey (litU x) z = pick (voteOf x l) z :=
  bal_fold x l _ none isMap_empty (fun z => rfl) z
theorem bal_has (x : Int) (l : List (Int × Bool)) : has (balD l) (litU x) = (voteOf x l).isSome := by
  cases h : voteOf x l with
  | none => exact has_false_of_atKey (fun z => by rw [bal_at, h]; rfl)
  | some v => exact has_true_of_atKey (y := .lit (.bool v)) (fun z => by rw [bal_at, h]; rfl)

/-! Counting while the order of the keys is open: f tells which are still to come. -/
def cntL (ks : List Int) (f : Int → Bool) (p : Int → Bool) : Nat := (ks.filter fun z => !f z && p z).length
theorem cntL_done (ks : List Int) (f p : Int → Bool) (h : ∀ z, f z = false) : cntL ks f p = (ks.filter p).length := by
  unfold cntL
  congr 2
  funext z
  simp [h]
theorem cntL_start (ks : List Int) (f p : Int → Bool) (h : ∀ z, z ∈ ks → f z = true) : cntL ks f p = 0 := by
  unfold cntL
  rw [List.length_eq_zero_iff, List.filter_eq_nil_iff]
  intro z hz
  simp [h z hz]
theorem cntL_step (f p : Int → Bool) (x : Int) (hx : f x = true) : ∀ ks : List Int, ks.Nodup → x ∈ ks → cntL ks (fun z => f z && !decide (z = x)) p = cntL ks f p + (if p x = true then 1 else 0)
  | [], _, h => by cases h
  | y :: r, hd, h => by
    rw [List.nodup_cons] at hd
    unfold cntL
    by_cases hy : y = x
    · subst hy
      have e : r.filter (fun z => !(f z && !decide (z = y)) && p z) = r.filter (fun z => !f z && p z) := by
        refine List.filter_congr fun z hz => ?_
        have : ¬ z = y := fun e => hd.1 (e ▸ hz)
        simp [this]
      rw [List.filter_cons, List.filter_cons]
      simp only [e, hx]
      by_cases hp : p y = true
      · simp [hp]
      · simp [hp]
    · have hm : x ∈ r := by
        rcases List.mem_cons.1 h with e | e
        · exact absurd e.symm hy
        · exact e
      have ih := cntL_step f p x hx r hd.2 hm
      unfold cntL at ih
      rw [List.filter_cons, List.filter_cons]
      have e : (!(f y && !decide (y = x)) && p y) = (!f y && p y) := by simp [hy]
      rw [e]
      by_cases hc : (!f y && p y) = true
      · rw [if_pos hc, if_pos hc, List.length_cons, List.length_cons, ih]; omega
      · rw [if_neg hc, if_neg hc]; exact ih
theorem cntL_le (ks : List Int) (f p : Int → Bool) : cntL ks f p ≤ ks.length := List.length_filter_le _ _
theorem nodup_le : ∀ (ks ids : List Int), ks.Nodup → (∀ x, x ∈ ks → x ∈ ids) → ks.length ≤ ids.length
  | [], _, _, _ => by simp
  | x :: r, ids, hd, hs => by
    rw [List.nodup_cons] at hd
    have hx := hs x (by simp)
    have := nodup_le r (ids.erase x) hd.2 (fun y hy => by
      rw [List.mem_erase_of_ne (fun e => hd.1 (by rw [← e]; exact hy))]
      exact hs y (by simp [hy]))
    rw [List.length_erase_of_mem hx] at this
    have h0 : 0 < ids.length := List.length_pos_of_mem hx
    simp only [List.length_cons]
    omega
theorem uniq_le (l : List Int) : (uniq l).length ≤ l.length := nodup_le _ _ (uniq_nodup l) (fun x hx => (mem_uniq l x).1 hx)
end Go.Proofs.Ytakighadedgemaa
