/-
  Inflights: one more in flight.
-/
import Derived.Test.YthfdhamencefiaaRows
import Derived.Test.YthfdhamencefiaaBase
import Derived.Test.YthfdhamencefiaaSees
import Derived.Test.YthfdhamencefiaaCopy
import Derived.Test.YthfdhamencefiaaInfl
import Derived.Test.YthfdhamencefiaaInflG
import Derived.Deep.QuietTactic
import Derived.BigQuiet
import Derived.IntWalk
set_option linter.unusedVariables false
set_option linter.unusedSimpArgs false
namespace Go.Proofs.Ythfdhamencefiaa
open Go.RowKit

theorem sumB_snoc (L : List (Int × Int)) (x : Int × Int) : sumB (L ++ [x]) = (sumB L + x.2) % 18446744073709551616 := by
  unfold sumB
  rw [rawB_append]
  simp only [rawB]
  omega
theorem sumB_rng (L : List (Int × Int)) : 0 ≤ sumB L ∧ sumB L < 18446744073709551616 := by unfold sumB; omega

theorem InfP.more {w : World} {b : Nat} {v : Value} {size : Nat} {max : Int} {L : List (Int × Int)} {x : Int × Int} (h1 : size ≤ 1000) (h2 : 0 ≤ max ∧ max < 18446744073709551616) (h3 : ∀ x, x ∈ L → (0 ≤ x.1 ∧ x.1 < 18446744073709551616) ∧ (0 ≤ x.2 ∧ x.2 < 18446744073709551616)) (hx : (0 ≤ x.1 ∧ x.1 < 18446744073709551616) ∧ (0 ≤ x.2 ∧ x.2 < 18446744073709551616))
    (h4 : L.length < size) (start : Nat) (R : List (Int × Int)) (hb : Blk w b #[.int .i64 start, .int .i64 (L.length + 1 : Nat), .int .u64 ((sumB L + x.2) % 18446744073709551616), .int .i64 size, .int .u64 max, v] 99) (hr : RingRow w v (R.set (pos start size L.length) x))
    (hR : R.length ≤ size) (hst : start < size ∨ start = 0) (hp : pos start size L.length < R.length) (hq : start + L.length < R.length ∨ R.length = size) (hold : ∀ j x, L[j]? = some x → R[pos start size j]? = some x) : InfP w b v size max (L ++ [x]) := by
  refine ⟨h1, h2, fun y hy => ?_, by simp; omega, start, R.set (pos start size L.length) x, ?_, hr, by simpa using hR, hst, ?_, fun j y hy => ?_⟩
  · rcases List.mem_append.1 hy with h | h
    · exact h3 y h
    · simp at h; subst h; exact hx
  · rw [sumB_snoc, List.length_append]; exact hb
  · simp; omega
  · have hj : j < L.length + 1 := by have := (List.getElem?_eq_some_iff.1 hy).1; simpa using this
    by_cases h : j < L.length
    · rw [List.getElem?_append_left h] at hy
      rw [List.getElem?_set, if_neg ?_]
      · exact hold j y hy
      · unfold pos
        split <;> split <;> omega
    · obtain rfl : j = L.length := by omega
      rw [List.getElem?_append_right (Nat.le_refl _)] at hy
      simp at hy
      subst hy
      exact List.getElem?_set_self (by simpa using hp)

def FreshV (w : World) (v v' : Value) : Prop := ∀ k, v'.ownBlock = some k → v.ownBlock = some k ∨ w.heap.size ≤ k

theorem OwnRow.setFl {w : World} {base g cap : Nat} {R : List (Int × Int)} {T : TypeId} (h : OwnRow w base g T 2 flC cap R) {i : Nat} (hi : i < R.length) (x y : Int) : OwnRow ((w.setCell ⟨g, i * 2, none⟩ (.int .u64 x)).setCell ⟨g, i * 2 + 1, none⟩ (.int .u64 y)) base g T 2 flC cap (R.set i (x, y)) := by
  have h0 := get_of_lt R hi
  obtain ⟨z, hz⟩ := h0
  have h1 := h.set flC_length hz (x, z.2) 0 (.int .u64 x) (by decide) rfl
  have h2 := h1.set flC_length (x := (x, z.2)) (set_get hz _) (x, y) 1 (.int .u64 y) (by decide) rfl
  rw [List.set_set] at h2
  exact h2

theorem set3_chg {F : Nat → Prop} {w w' : World} {b g i : Nat} {x y u v : Value} (h : Chg F w w') (hb : F b ∨ w.heap.size ≤ b) (hg : F g ∨ w.heap.size ≤ g) : Chg F w ((((w'.setCell ⟨g, i, none⟩ x).setCell ⟨g, i + 1, none⟩ y).setCell ⟨b, 1, none⟩ u).setCell ⟨b, 2, none⟩ v) :=
  (((h.set (p := ⟨g, i, none⟩) hg x).set (p := ⟨g, i + 1, none⟩) hg y).set (p := ⟨b, 1, none⟩) hb u).set (p := ⟨b, 2, none⟩) hb v

/-- How the Blk of the Inflights and the row of its buffer stand behind the four stores. -/
theorem set3_blk {w : World} {b g i : Nat} {x y : Value} {c : Array Value} {T : TypeId} (hb : Blk w b c T) (hne : b ≠ g) (u v : Value) : Blk ((((w.setCell ⟨g, i, none⟩ x).setCell ⟨g, i + 1, none⟩ y).setCell ⟨b, 1, none⟩ u).setCell ⟨b, 2, none⟩ v) b ((c.setIfInBounds 1 u).setIfInBounds 2 v) T :=
  (((hb.setOther (a := ⟨g, i, none⟩) hne x).setOther (a := ⟨g, i + 1, none⟩) hne y).set 1 u).set 2 v
theorem OwnRow.drewN {α : Type} {w : World} {base g : Nat} {T : TypeId} {n : Nat} {cells : α → List Value} {cap : Nat} {l : List α} (h : OwnRow w base g T n cells cap l) (k : Nat) : OwnRow (w.drewN k) base g T n cells cap l := by
  obtain ⟨cur, hb, h1, h2⟩ := h.blk
  exact ⟨h.base_le, h.le, h.max, cur, hb, h1, h2⟩
theorem OwnRow.other {α : Type} {w : World} {base g : Nat} {T : TypeId} {n : Nat} {cells : α → List Value} {cap : Nat} {l : List α} (h : OwnRow w base g T n cells cap l) {a : Addr} (hne : g ≠ a.block) (v : Value) : OwnRow (w.setCell a v) base g T n cells cap l := by
  obtain ⟨cur, hb, h1, h2⟩ := h.blk
  exact ⟨h.base_le, h.le, h.max, cur, hb.setOther hne v, h1, h2⟩

set_option maxRecDepth 100000 in
set_option maxHeartbeats 2000000 in
theorem add_any (b : Nat) (v : Value) (size : Nat) (max : Int) (L : List (Int × Int)) (x y : Int) (w : World) (h : InfP w b v size max L) (hx : 0 ≤ x ∧ x < 18446744073709551616) (hy : 0 ≤ y ∧ y < 18446744073709551616) :
    Calls Try.prog 36 #[(Value.pointer (some ⟨b, 0, none⟩)), .int .u64 x, .int .u64 y] w fun r w' =>
      (fullB size max L = true ∧ (∃ u pv, r = .panicked [{ v := .iface u pv, recovered := false }]) ∧ Ext w w') ∨
      (fullB size max L = false ∧ r = .returned (.tuple #[]) ∧ ∃ v', InfP w' b v' size max (L ++ [(x, y)]) ∧ FreshV w v v' ∧ Chg (InfF b v) w w') := by
  have X := Lib.hid h
  obtain ⟨hs, hm, hrng, hlen, start, R, hb, hr, hRs, hst, hq, hold⟩ := h
  cases hf : fullB size max L
  · have hcnt : L.length < size := by
      unfold fullB at hf
      simp at hf
      omega
    obtain ⟨a, c, rfl, hpos⟩ := hr.pos
    obtain ⟨n, hn⟩ : ∃ n, n = L.length := ⟨_, rfl⟩
    obtain ⟨m, hmR⟩ : ∃ m, m = R.length := ⟨_, rfl⟩
    obtain ⟨sb, hsb⟩ : ∃ s, s = sumB L := ⟨_, rfl⟩
    have hsr := sumB_rng L
    rw [← hsb] at hsr
    obtain ⟨hsr0, hsr1⟩ := hsr
    have d0 := hb.cell 0
    have d1 := hb.cell 1
    have d2 := hb.cell 2
    have d3 := hb.cell 3
    have d5 := hb.cell 5
    have f1 := hb.free 1
    have f2 := hb.free 2
    simp at d0 d1 d2 d3 d5
    have hbl := hb.lt
    rw [← hn] at d1 hcnt hq
    rw [← hsb] at d2
    rw [← hmR] at d5 hRs hq hpos
    have B := Lib.hid hb
    have P := Lib.hid hpos
    have HN := Lib.hid hn
    have HM := Lib.hid hmR
    have HS := Lib.hid hsb
    have HO := Lib.hid hold
    have HF := Lib.hid hf
    have HR := Lib.hid hr
    have hw1 : IntKind.i64.wrap ((start : Int) + n) = start + n := IntWalk.i64_in _ (by omega)
    clear hb hpos hn hmR hsb hold hf hr
    by_cases hA : start + n < size
    · have hpn : pos start size n = start + n := by unfold pos; rw [if_pos hA]
      by_cases hA2 : start + n < m
      · obtain ⟨g, rfl, ho⟩ := P.out (by omega)
        have hgl := ho.lt
        obtain ⟨z, hz⟩ := get_of_lt R (k := start + n) (by rw [← HM.out]; exact hA2)
        have e0 : w.cell? ⟨g, (start + n) * 2, none⟩ = some (.int .u64 z.1) := ho.cell hz (j := 0) rfl
        have e1 : w.cell? ⟨g, (start + n) * 2 + 1, none⟩ = some (.int .u64 z.2) := ho.cell hz (j := 1) rfl
        have g0 := ho.free ((start + n) * 2)
        have g1 := ho.free ((start + n) * 2 + 1)
        have hne : b ≠ g := by
          obtain ⟨cur, hcb, -⟩ := ho.blk
          exact B.out.ne hcb (by decide)
        have hne1 : ¬ b = g := hne
        have hne2 : ¬ g = b := fun e => hne e.symm
        have HO2 := Lib.hid ho
        have HZ := Lib.hid hz
        have hA' : (start : Int) + n < size := by omega
        have hA2' : (start : Int) + n < m := by omega
        clear ho hz hne
        go_enter Try.func36, Try.ntmps36
        go_wp2_with (go_at_call 54; (with_reducible refine (full_any b _ size max L _ X.out).mono ?_); rw [HF.out]; rintro e w1 ⟨rfl, n1, rfl⟩)
        go_quiet (fail)
        go_wp2
        refine bodyPost_end (results_none rfl _ _ _) rfl (.inr ⟨trivial, rfl, _, ?_, fun k hk => .inl hk, ?_⟩)
        · refine InfP.more hs hm hrng ⟨hx, hy⟩ (by rw [← HN.out]; exact hcnt) start R ?_ ?_ (by rw [← HM.out]; exact hRs) hst (by rw [← HN.out, ← HM.out, hpn]; exact hA2) (by rw [← HN.out, ← HM.out]; omega) HO.out
          · have := set3_blk (g := g) (i := (start + n) * 2) (x := .int .u64 x) (y := .int .u64 y) (B.out.drewN (n1 + nq)) hne1 (.int .i64 (n + 1)) (.int .u64 ((sb + y) % 18446744073709551616))
            rw [← HS.out, ← HN.out]
            exact this
          · rw [← HN.out, hpn]
            exact .inr ⟨g, c, by simp, (((HO2.out.drewN (n1 + nq)).setFl (by rw [← HM.out]; exact hA2) x y).other hne2 _).other hne2 _⟩
        · exact set3_chg ((Chg.refl _ _).drewN _) (.inl (.inl rfl)) (.inl (.inr rfl))
      · have hA2m : start + n = m := by omega
        have hA2m' : IntKind.i64.wrap ((start : Int) + n) = (m : Int) := by rw [hw1]; omega
        have hms : (m : Int) < size := by omega
        have hk : m < growTo m size ∧ growTo m size ≤ size := by
          unfold growTo
          split
          · omega
          · split <;> omega
        obtain ⟨k, hkk⟩ : ∃ k, k = growTo m size := ⟨_, rfl⟩
        rw [← hkk] at hk
        obtain ⟨hk1, hk2⟩ := hk
        have hkl : (grownR R k).length = k := by
          unfold grownR
          rw [List.length_append, List.length_replicate, ← HM.out]
          omega
        have KL := Lib.hid hkl
        have G := fun W (hW : Ext w W) => grow_any b (.int .i64 start) (.int .i64 L.length) (.int .u64 (sumB L)) size max _ R W (B.out.ext hW) (HR.out.chg (Chg.of_ext (F := fun _ => False) hW) (fun _ _ h => h)) hs (by rw [← HM.out]; omega)
        have HG := Lib.hid G
        have HKK := Lib.hid hkk
        have hmk : (m : Int) < k := by omega
        clear hw1 hkl hkk G
        go_enter Try.func36, Try.ntmps36
        go_wp2_with (go_at_call 54; (with_reducible refine (full_any b _ size max L _ X.out).mono ?_); rw [HF.out]; rintro e w1 ⟨rfl, n1, rfl⟩)
        go_quiet (fail)
        go_wp2_with (go_at_call 57; refine (HG.out _ (by (repeat (first | with_reducible exact Ext.refl _ | with_reducible assumption | with_reducible apply Ext.alloc | with_reducible apply Ext.drew | with_reducible apply Ext.drewN | (with_reducible refine Ext.trans ?_ (by assumption)) | ((with_reducible refine Ext.set ?_ ?_ _); rotate_left; (focus (first | (simp; done) | omega | (simp; omega)))))))).mono ?_; rw [← HM.out, ← HKK.out]; rintro e w2 ⟨g, rfl, hg, hb2, ho2, hc2⟩; obtain ⟨z, hz⟩ := get_of_lt (grownR R k) (k := m) (by rw [KL.out]; exact hk1); have e0 : w2.cell? ⟨g, m * 2, none⟩ = some (.int .u64 z.1) := ho2.cell hz (j := 0) rfl; have e1 : w2.cell? ⟨g, m * 2 + 1, none⟩ = some (.int .u64 z.2) := ho2.cell hz (j := 1) rfl; have g0 := ho2.free (m * 2); have g1 := ho2.free (m * 2 + 1); rw [← HN.out, ← HS.out] at hb2; have p1 : w2.cell? ⟨b, 1, none⟩ = some (.int .i64 n) := hb2.cell 1; have p2 : w2.cell? ⟨b, 2, none⟩ = some (.int .u64 sb) := hb2.cell 2; have p5 : w2.cell? ⟨b, 5, none⟩ = some (.slice (some ⟨g, 0, none⟩) k k) := hb2.cell 5; have q1 := hb2.free 1; have q2 := hb2.free 2; have hg' : w.heap.size ≤ g := hg; have hne1 : ¬ b = g := (by omega); have hne2 : ¬ g = b := (by omega); have HB2 := Lib.hid hb2; have HO2 := Lib.hid ho2; have HC2 := Lib.hid hc2; clear hb2 ho2 hc2 hz)
        refine bodyPost_end (results_none rfl _ _ _) rfl (.inr ⟨trivial, rfl, .slice (some ⟨g, 0, none⟩) k k, ?_, fun j hj => .inr (by have h : some g = some j := hj; simp at h; omega), ?_⟩)
        · refine InfP.more hs hm hrng ⟨hx, hy⟩ (by rw [← HN.out]; exact hcnt) start (grownR R k) ?_ ?_ (by rw [KL.out]; exact hk2) hst (by rw [← HN.out, KL.out, hpn]; omega) (by rw [← HN.out, KL.out]; omega) (fun j z hj => ?_)
          · have := set3_blk (g := g) (i := m * 2) (x := .int .u64 x) (y := .int .u64 y) HB2.out hne1 (.int .i64 (n + 1)) (.int .u64 ((sb + y) % 18446744073709551616))
            rw [← HS.out, ← HN.out]
            exact this
          · rw [← HN.out, hpn, hA2m]
            exact .inr ⟨g, k, by simp [KL.out], ((HO2.out.setFl (by rw [KL.out]; exact hk1) x y).other hne2 _).other hne2 _⟩
          · have := HO.out j z hj
            unfold grownR
            rw [List.getElem?_append_left (List.getElem?_eq_some_iff.1 this).1]
            exact this
        · exact set3_chg (((Chg.refl _ w).drewN _).trans (HC2.out.mono (fun k _ hk => .inl hk))) (.inl (.inl rfl)) (.inr hg')
    · have hms : m = size := by omega
      obtain ⟨p, hp⟩ : ∃ p, start + n = size + p := ⟨start + n - size, by omega⟩
      have hpn : pos start size n = p := by unfold pos; rw [if_neg hA]; omega
      have hpm : p < m := by omega
      have hw2 : IntKind.i64.wrap ((start : Int) + n) = (size : Int) + p := by rw [hw1]; omega
      obtain ⟨g, rfl, ho⟩ := P.out (by omega)
      have hgl := ho.lt
      obtain ⟨z, hz⟩ := get_of_lt R (k := p) (by rw [← HM.out]; exact hpm)
      have e0 : w.cell? ⟨g, p * 2, none⟩ = some (.int .u64 z.1) := ho.cell hz (j := 0) rfl
      have e1 : w.cell? ⟨g, p * 2 + 1, none⟩ = some (.int .u64 z.2) := ho.cell hz (j := 1) rfl
      have g0 := ho.free (p * 2)
      have g1 := ho.free (p * 2 + 1)
      have hne : b ≠ g := by
        obtain ⟨cur, hcb, -⟩ := ho.blk
        exact B.out.ne hcb (by decide)
      have hne1 : ¬ b = g := hne
      have hne2 : ¬ g = b := fun e => hne e.symm
      have HO2 := Lib.hid ho
      have HZ := Lib.hid hz
      have hA2' : (p : Int) < m := by omega
      have hw3 : IntKind.i64.wrap ((size : Int) + p - size) = p := by rw [show (size : Int) + p - size = p by omega]; exact IntWalk.i64_in _ (by omega)
      have HP := Lib.hid hp
      clear ho hz hne hw1 hp
      go_enter Try.func36, Try.ntmps36
      go_wp2_with (go_at_call 54; (with_reducible refine (full_any b _ size max L _ X.out).mono ?_); rw [HF.out]; rintro e w1 ⟨rfl, n1, rfl⟩)
      go_quiet (fail)
      go_wp2
      refine bodyPost_end (results_none rfl _ _ _) rfl (.inr ⟨trivial, rfl, _, ?_, fun k hk => .inl hk, ?_⟩)
      · refine InfP.more hs hm hrng ⟨hx, hy⟩ (by rw [← HN.out]; exact hcnt) start R ?_ ?_ (by rw [← HM.out]; exact hRs) hst (by rw [← HN.out, ← HM.out, hpn]; exact hpm) (by rw [← HN.out, ← HM.out]; omega) HO.out
        · have := set3_blk (g := g) (i := p * 2) (x := .int .u64 x) (y := .int .u64 y) (B.out.drewN (n1 + nq)) hne1 (.int .i64 (n + 1)) (.int .u64 ((sb + y) % 18446744073709551616))
          rw [← HS.out, ← HN.out]
          exact this
        · rw [← HN.out, hpn]
          exact .inr ⟨g, c, by simp, (((HO2.out.drewN (n1 + nq)).setFl (by rw [← HM.out]; exact hpm) x y).other hne2 _).other hne2 _⟩
      · exact set3_chg ((Chg.refl _ _).drewN _) (.inl (.inl rfl)) (.inl (.inr rfl))
  · have HF := Lib.hid hf
    clear hb hr hold hf
    go_enter Try.func36, Try.ntmps36
    go_wp2_with (go_at_call 54; (with_reducible refine (full_any b v size max L _ X.out).mono ?_); rw [HF.out]; rintro e w1 ⟨rfl, n1, rfl⟩)
    exact ⟨rfl, .inl ⟨by simp, ⟨_, _, rfl⟩, by (repeat (first | with_reducible exact Ext.refl _ | with_reducible assumption | with_reducible apply Ext.alloc | with_reducible apply Ext.drew | with_reducible apply Ext.drewN | (with_reducible refine Ext.trans ?_ (by assumption)) | ((with_reducible refine Ext.set ?_ ?_ _); rotate_left; (focus (first | (simp; done) | omega | (simp; omega))))))⟩⟩
end Go.Proofs.Ythfdhamencefiaa
