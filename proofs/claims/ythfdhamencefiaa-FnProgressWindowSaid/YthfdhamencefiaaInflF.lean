/-
  Inflights: those up to an index are freed; all are.
-/
import Derived.Test.YthfdhamencefiaaRows
import Derived.Test.YthfdhamencefiaaBase
import Derived.Test.YthfdhamencefiaaSees
import Derived.Test.YthfdhamencefiaaCopy
import Derived.Test.YthfdhamencefiaaInfl
import Derived.Test.YthfdhamencefiaaInflG
import Derived.Test.YthfdhamencefiaaInflA
import Derived.Deep.QuietTactic
import Derived.BigQuiet
import Derived.IntWalk
set_option linter.unusedVariables false
set_option linter.unusedSimpArgs false
namespace Go.Proofs.Ythfdhamencefiaa
open Go.RowKit

/-- What is left when those up to an index are freed. -/
def freed (to : Int) (L : List (Int × Int)) : List (Int × Int) := L.dropWhile fun x => decide (x.1 ≤ to)

theorem freed_drop (to : Int) : ∀ (i : Nat) (L : List (Int × Int)), (∀ x, x ∈ L.take i → x.1 ≤ to) → (∀ x, L[i]? = some x → ¬ x.1 ≤ to) → freed to L = L.drop i
  | 0, L, _, h => by
    cases L with
    | nil => rfl
    | cons x r => unfold freed; rw [List.dropWhile_cons_of_neg (by simpa using h x rfl)]; rfl
  | i + 1, [], _, _ => by simp [freed]
  | i + 1, x :: r, h, h' => by
    have hx := h x (by simp)
    unfold freed
    rw [List.dropWhile_cons_of_pos (by simpa using hx)]
    exact freed_drop to i r (fun y hy => h y (by simp [hy])) (fun y hy => h' y (by simpa using hy))

theorem rawB_take (L : List (Int × Int)) (i : Nat) : rawB L = rawB (L.take i) + rawB (L.drop i) := by
  rw [← rawB_append, List.take_append_drop]

theorem InfP.freed {w : World} {b : Nat} {v : Value} {size : Nat} {max : Int} {L : List (Int × Int)} (h1 : size ≤ 1000) (h2 : 0 ≤ max ∧ max < 18446744073709551616) (h3 : ∀ x, x ∈ L → (0 ≤ x.1 ∧ x.1 < 18446744073709551616) ∧ (0 ≤ x.2 ∧ x.2 < 18446744073709551616))
    (h4 : L.length ≤ size) (start s' i : Nat) (R : List (Int × Int)) (hi : i ≤ L.length) (hs' : (i < L.length ∧ s' = pos start size i) ∨ (i = L.length ∧ s' = 0)) (hb : Blk w b #[.int .i64 s', .int .i64 (L.length - i : Nat), .int .u64 (sumB (L.drop i)), .int .i64 size, .int .u64 max, v] 99) (hr : RingRow w v R)
    (hR : R.length ≤ size) (hst : start < size ∨ start = 0) (hq : start + L.length ≤ R.length ∨ R.length = size) (hold : ∀ j x, L[j]? = some x → R[pos start size j]? = some x) : InfP w b v size max (L.drop i) := by
  refine ⟨h1, h2, fun y hy => h3 y (List.mem_of_mem_drop hy), by simp; omega, s', R, by rw [List.length_drop]; exact hb, hr, hR, ?_, ?_, fun j y hy => ?_⟩
  · rcases hs' with ⟨hs, rfl⟩ | ⟨_, rfl⟩
    · unfold pos; split <;> omega
    · omega
  · rw [List.length_drop]
    rcases hs' with ⟨hs, rfl⟩ | ⟨_, rfl⟩
    · unfold pos; split <;> omega
    · omega
  · rw [List.getElem?_drop] at hy
    have hj := (List.getElem?_eq_some_iff.1 hy).1
    have h := hold _ _ hy
    rcases hs' with ⟨hs, rfl⟩ | ⟨he, _⟩
    · have : pos (pos start size i) size j = pos start size (i + j) := by
        unfold pos
        repeat' split
        all_goals omega
      rw [this]
      exact h
    · omega

theorem chg3 (b n : Nat) (w : World) (x y z : Value) : Chg (fun k => k = b) w ((((w.drewN n).setCell ⟨b, 1, none⟩ x).setCell ⟨b, 2, none⟩ y).setCell ⟨b, 0, none⟩ z) :=
  ((((Chg.refl (fun k => k = b) w).drewN n).set (p := ⟨b, 1, none⟩) (.inl rfl) x).set (p := ⟨b, 2, none⟩) (.inl rfl) y).set (p := ⟨b, 0, none⟩) (.inl rfl) z

set_option maxRecDepth 100000 in
set_option maxHeartbeats 2000000 in
theorem freeLE_any (b : Nat) (v : Value) (size : Nat) (max : Int) (L : List (Int × Int)) (to : Int) (w : World) (h : InfP w b v size max L) :
    Calls Try.prog 51 #[(Value.pointer (some ⟨b, 0, none⟩)), .int .u64 to] w fun r w' => r = .returned (.tuple #[]) ∧ InfP w' b v size max (freed to L) ∧ Chg (fun k => k = b) w w' := by
  have X := Lib.hid h
  obtain ⟨hs, hm, hrng, hlen, start, R, hb, hr, hRs, hst, hq, hold⟩ := h
  obtain ⟨a, c, rfl, hpos⟩ := hr.pos
  have d0 := hb.cell 0
  have d1 := hb.cell 1
  have d5 := hb.cell 5
  simp at d0 d1 d5
  by_cases h0 : L.length = 0
  · obtain rfl := List.eq_nil_of_length_eq_zero h0
    have hn : ((([] : List (Int × Int)).length : Int) == 0) = true := rfl
    clear hb hr hold hpos h0
    go_enter Try.func51, Try.ntmps51
    go_wp2_with fail
    go_quiet (fail)
    go_wp2
    refine bodyPost_ret (results_none rfl _ _ _) rfl ?_
    exact ⟨rfl, X.out.ext (by (repeat (first | with_reducible exact Ext.refl _ | with_reducible assumption | with_reducible apply Ext.alloc | with_reducible apply Ext.drew | with_reducible apply Ext.drewN | (with_reducible refine Ext.trans ?_ (by assumption)) | ((with_reducible refine Ext.set ?_ ?_ _); rotate_left; (focus (first | (simp; done) | omega | (simp; omega))))))), (Chg.refl _ _).drewN _⟩
  · obtain ⟨n, hn⟩ : ∃ n, n = L.length := ⟨_, rfl⟩
    obtain ⟨m, hmR⟩ : ∃ m, m = R.length := ⟨_, rfl⟩
    obtain ⟨sb, hsb⟩ : ∃ s, s = sumB L := ⟨_, rfl⟩
    have hsr := sumB_rng L
    rw [← hsb] at hsr
    obtain ⟨hsr0, hsr1⟩ := hsr
    have d2 := hb.cell 2
    have d3 := hb.cell 3
    have f0 := hb.free 0
    have f1 := hb.free 1
    have f2 := hb.free 2
    simp at d2 d3
    have hbl := hb.lt
    rw [← hn] at d1 hlen hq h0
    rw [← hsb] at d2
    rw [← hmR] at d5 hRs hq hpos
    obtain ⟨x, hx⟩ := get_of_lt L (k := 0) (by omega)
    have hx1 := hold 0 x hx
    have hst1 : start < size := by omega
    have hp0 : pos start size 0 = start := by unfold pos; rw [if_pos (by omega)]; rfl
    rw [hp0] at hx1
    have hsm : start < m := by rw [hmR]; exact (List.getElem?_eq_some_iff.1 hx1).1
    obtain ⟨g, rfl, ho⟩ := hpos (by omega)
    have e0 : w.cell? ⟨g, start * 2, none⟩ = some (.int .u64 x.1) := ho.cell hx1 (j := 0) rfl
    have hsm' : (start : Int) < m := by omega
    have hn0 : ((n : Int) == 0) = false := by rw [beq_eq_false_iff_ne]; omega
    have B := Lib.hid hb
    have HN := Lib.hid hn
    have HM := Lib.hid hmR
    have HS := Lib.hid hsb
    have HO := Lib.hid hold
    have HR := Lib.hid hr
    have HX := Lib.hid hx
    have hgb : ¬ g = b := fun e => by
      obtain ⟨cur, hcb, -⟩ := ho.blk
      subst e
      exact hcb.ne hb (by decide) rfl
    have HO2 := Lib.hid ho
    have HRNG := Lib.hid hrng
    clear hb hpos hn hmR hsb hold hr hx hx1 ho hrng
    by_cases hto : to < x.1
    · have hfr : freed to L = L := by
        have := freed_drop to 0 L (fun y hy => by simp at hy) (fun y hy => by rw [HX.out] at hy; simp at hy; subst hy; omega)
        simpa using this
      rw [hfr]
      clear hfr
      go_enter Try.func51, Try.ntmps51
      go_wp2_with fail
      go_quiet (fail)
      go_wp2
      refine bodyPost_ret (results_none rfl _ _ _) rfl ?_
      exact ⟨rfl, X.out.ext (by (repeat (first | with_reducible exact Ext.refl _ | with_reducible assumption | with_reducible apply Ext.alloc | with_reducible apply Ext.drew | with_reducible apply Ext.drewN | (with_reducible refine Ext.trans ?_ (by assumption)) | ((with_reducible refine Ext.set ?_ ?_ _); rotate_left; (focus (first | (simp; done) | omega | (simp; omega))))))), (Chg.refl _ _).drewN _⟩
    · have htod : decide (to < x.1) = false := by simp; omega
      go_enter Try.func51, Try.ntmps51
      go_wp2_with fail
      go_quiet (fail)
      go_wp2
      go_loopw [4, 5, 6] (fun vi vk vb wr => ∃ (i : Nat) (s : Int), i ≤ n ∧ vk = .int .i64 i ∧ vi = .int .i64 (pos start size i : Nat) ∧ vb = .int .u64 s ∧ s = sumB (L.take i) ∧ (∀ y, y ∈ L.take i → y.1 ≤ to) ∧ wr = w.drewN nq) (fun _ k _ _ => n - (intOf k).toNat)
      case atStart => exact ⟨0, 0, Nat.zero_le _, rfl, by rw [hp0], rfl, rfl, fun y hy => by simp at hy, rfl⟩
      case round =>
        obtain ⟨i, s, hi, rfl, rfl, rfl, hs6, hall, rfl⟩ := hrel
        have hss := sumB_rng (L.take i)
        rw [← hs6] at hss
        obtain ⟨hss0, hss1⟩ := hss
        have hraw : (sb - s) % 18446744073709551616 = sumB (L.drop i) := by
          rw [HS.out, hs6]
          unfold sumB
          rw [rawB_take L i]
          omega
        have HRAW := Lib.hid hraw
        have HALL := Lib.hid hall
        have HS6 := Lib.hid hs6
        clear hraw hall hs6
        by_cases hin : i < n
        · obtain ⟨y, hy⟩ := get_of_lt L (k := i) (by rw [← HN.out]; exact hin)
          have hyR := HO.out i y hy
          have hyr := HRNG.out y (List.mem_of_getElem? hy)
          obtain ⟨-, hyr0, hyr1⟩ := hyr
          obtain ⟨q, hqq⟩ : ∃ q, q = pos start size i := ⟨_, rfl⟩
          rw [← hqq] at hyR ⊢
          have hqm : q < m := by rw [HM.out]; exact (List.getElem?_eq_some_iff.1 hyR).1
          have hqm' : (q : Int) < m := by omega
          have e1 : (w.drewN nq).cell? ⟨g, q * 2, none⟩ = some (.int .u64 y.1) := HO2.out.cell hyR (j := 0) rfl
          have e2 : (w.drewN nq).cell? ⟨g, q * 2 + 1, none⟩ = some (.int .u64 y.2) := HO2.out.cell hyR (j := 1) rfl
          have HQ := Lib.hid hqq
          have HY := Lib.hid hy
          clear hy hyR hqq
          by_cases hty : to < y.1
          · go_wp2
            have hd : freed to L = L.drop i := freed_drop to i L HALL.out (fun z hz => by rw [HY.out] at hz; simp at hz; subst hz; omega)
            have hwr : IntKind.u64.wrap (sb - s) = sumB (L.drop i) := by rw [IntKind.wrap_u64]; exact HRAW.out
            have e1 : ((L.length - i : Nat) : Int) = n - i := by rw [← HN.out]; omega
            have hc := chg3 b nq w (.int .i64 ((n : Int) - i)) (.int .u64 (IntKind.u64.wrap (sb - s))) (.int .i64 q)
            refine bodyPost_end (results_none rfl _ _ _) rfl ⟨rfl, ?_, hc⟩
            rw [hd]
            refine InfP.freed hs hm HRNG.out (by rw [← HN.out]; exact hlen) start q i R (by rw [← HN.out]; omega) (.inl ⟨by rw [← HN.out]; exact hin, HQ.out⟩) ?_ (HR.out.chg hc (fun k hk hkb => hgb (by have h : some g = some k := hk; simp at h; omega))) (by rw [← HM.out]; exact hRs) hst (by rw [← HN.out, ← HM.out]; exact hq) HO.out
            rw [e1, ← hwr]
            exact (((B.out.drewN nq).set 1 _).set 2 _).set 0 _
          · by_cases hqs : q + 1 < size
            · have hqi : pos start size (i + 1) = q + 1 := by rw [HQ.out] at hqs ⊢; unfold pos at hqs ⊢; split at hqs <;> split <;> omega
              have hsum : IntKind.u64.wrap (s + y.2) = sumB (L.take (i + 1)) := by
                rw [take_succ_of HY.out, sumB_snoc, ← HS6.out, IntKind.wrap_u64]
              go_wp2
              go_roundw
              case rel => exact ⟨i + 1, _, by omega, by go_num, by rw [hqi]; go_num, rfl, rfl, fun z hz => by rw [take_succ_of HY.out] at hz; rcases List.mem_append.1 hz with h | h <;> first | exact HALL.out z h | (simp at h; subst h; omega), trivial⟩
              case measure => simp [intOf]; omega
            · have hqi : pos start size (i + 1) = q + 1 - size := by rw [HQ.out] at hqs ⊢; unfold pos at hqs ⊢; split at hqs <;> split <;> omega
              have hsum : IntKind.u64.wrap (s + y.2) = sumB (L.take (i + 1)) := by
                rw [take_succ_of HY.out, sumB_snoc, ← HS6.out, IntKind.wrap_u64]
              go_wp2
              go_roundw
              case rel => exact ⟨i + 1, _, by omega, by go_num, by rw [hqi]; congr 1; omega, rfl, rfl, fun z hz => by rw [take_succ_of HY.out] at hz; rcases List.mem_append.1 hz with h | h <;> first | exact HALL.out z h | (simp at h; subst h; omega), trivial⟩
              case measure => simp [intOf]; omega
        · obtain rfl : i = n := by omega
          have hi0 : IntKind.i64.wrap ((i : Int) - i) = 0 := by rw [Int.sub_self]; rfl
          go_wp2
          have hd : freed to L = L.drop i := freed_drop to i L HALL.out (fun z hz => by rw [List.getElem?_eq_none (by rw [← HN.out]; omega)] at hz; cases hz)
          have hwr : IntKind.u64.wrap (sb - s) = sumB (L.drop i) := by rw [IntKind.wrap_u64]; exact HRAW.out
          have e1 : ((L.length - i : Nat) : Int) = 0 := by rw [← HN.out]; omega
          have hc : Chg (fun k => k = b) w _ := (chg3 b nq w (.int .i64 0) (.int .u64 (IntKind.u64.wrap (sb - s))) (.int .i64 (pos start size i : Nat))).set (p := ⟨b, 0, none⟩) (.inl rfl) (.int .i64 0)
          refine bodyPost_end (results_none rfl _ _ _) rfl ⟨rfl, ?_, hc⟩
          rw [hd]
          refine InfP.freed hs hm HRNG.out (by rw [← HN.out]; exact hlen) start 0 i R (by rw [← HN.out]; omega) (.inr ⟨HN.out, rfl⟩) ?_ (HR.out.chg hc (fun k hk hkb => hgb (by have h : some g = some k := hk; simp at h; omega))) (by rw [← HM.out]; exact hRs) hst (by rw [← HN.out, ← HM.out]; exact hq) HO.out
          rw [e1, ← hwr]
          exact ((((B.out.drewN nq).set 1 _).set 2 _).set 0 _).set 0 _
end Go.Proofs.Ythfdhamencefiaa
