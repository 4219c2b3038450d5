/-
  A call on an Inflights, guarded; a row of calls.
-/
import Derived.Test.YthfdhamencefiaaRows
import Derived.Test.YthfdhamencefiaaBase
import Derived.Test.YthfdhamencefiaaSees
import Derived.Test.YthfdhamencefiaaGuard
import Derived.Test.YthfdhamencefiaaInfl
import Derived.Test.YthfdhamencefiaaInflA
import Derived.Test.YthfdhamencefiaaInflF
import Derived.Test.YthfdhamencefiaaInflC
import Derived.Deep.RegionHeld3
import Derived.Deep.QuietTactic
import Derived.BigQuiet
set_option linter.unusedVariables false
set_option linter.unusedSimpArgs false
namespace Go.Proofs.Ythfdhamencefiaa
open Go.RowKit

/-- A call: kind, A, B. -/
structure FCall where
  kind : Int
  A : Int
  B : Int
/-- What a call makes of those in flight; none: it panics. -/
def flStep (size : Nat) (max : Int) (L : List (Int × Int)) (c : FCall) : Option (List (Int × Int)) :=
  if c.kind = 1 then (if fullB size max L = true then none else some (L ++ [(c.A, c.B)])) else if c.kind = 2 then some (freed c.A L) else if c.kind = 3 then some [] else some L

theorem InfP.notF {w : World} {b : Nat} {v : Value} {size : Nat} {max : Int} {L : List (Int × Int)} (h : InfP w b v size max L) {p : Nat} {c : Array Value} {t : TypeId} (hp : Blk w p c t) (h1 : t ≠ 99) (h2 : t ≠ 103) : ¬ InfF b v p := by
  obtain ⟨_, _, _, _, _, _, hb, hr, _⟩ := h
  rintro (rfl | hg)
  · exact hp.ne hb h1 rfl
  · rcases hr with ⟨rfl, _⟩ | ⟨g', cap, rfl, ho⟩
    · cases hg
    · have h : some g' = some p := hg
      simp at h
      obtain ⟨cur, hcb, -⟩ := ho.blk
      subst h
      exact hp.ne hcb h2 rfl

/-- What the closure comes to, if it returns. -/
theorem flightDone {w w1 : World} {pa b n : Nat} {v v' : Value} {size : Nat} {max : Int} {L L' : List (Int × Int)} {c : FCall} {r : Ending} (hs : flStep size max L c = some L') (hr : r = .returned (.tuple #[])) (h1 : InfP w1 b v' size max L') (hf : FreshV w v v') (hc : Chg (InfF b v) w w1) (ha : Blk w1 pa #[.int .i64 0, .bool false, .bool false] 35) :
    ∃ M u, flStep size max L c = some M ∧ r = .returned (.tuple #[]) ∧ InfP (((w1.drewN n).setCell ⟨pa, 0, none⟩ (.int .i64 L'.length)).setCell ⟨pa, 1, none⟩ (.bool (fullB size max L'))) b u size max M ∧ FreshV w v u ∧
      Blk (((w1.drewN n).setCell ⟨pa, 0, none⟩ (.int .i64 L'.length)).setCell ⟨pa, 1, none⟩ (.bool (fullB size max L'))) pa #[.int .i64 M.length, .bool (fullB size max M), .bool false] 35 ∧
      Chg (fun k => k = pa ∨ InfF b v k) w (((w1.drewN n).setCell ⟨pa, 0, none⟩ (.int .i64 L'.length)).setCell ⟨pa, 1, none⟩ (.bool (fullB size max L'))) := by
  have hn := h1.notF ha (by decide) (by decide)
  have e : Chg (fun k => k = pa) w1 (((w1.drewN n).setCell ⟨pa, 0, none⟩ (.int .i64 L'.length)).setCell ⟨pa, 1, none⟩ (.bool (fullB size max L'))) :=
    (((Chg.refl (fun k => k = pa) w1).drewN n).set (p := ⟨pa, 0, none⟩) (.inl rfl) _).set (p := ⟨pa, 1, none⟩) (.inl rfl) _
  refine ⟨L', v', hs, hr, h1.chg e (fun k hk => by subst hk; exact hn), hf, ((ha.drewN n).set 0 _).set 1 _, ?_⟩
  exact (hc.mono (fun k _ hk => .inr hk)).trans (e.mono (fun k _ hk => .inl hk))

set_option maxRecDepth 100000 in
set_option maxHeartbeats 2000000 in
theorem flightOther (pc pp pa b : Nat) (v : Value) (size : Nat) (max : Int) (L : List (Int × Int)) (k A B : Int) (h1 : k ≠ 1) (h2 : k ≠ 2) (h3 : k ≠ 3) (w : World) (h : InfP w b v size max L) (hA : 0 ≤ A ∧ A < 18446744073709551616) (hB : 0 ≤ B ∧ B < 18446744073709551616)
    (hc : Blk w pc #[.int .i64 k, .int .u64 A, .int .u64 B] 31) (hp : Blk w pp #[(Value.pointer (some ⟨b, 0, none⟩))] 72) (ha : Blk w pa #[.int .i64 0, .bool false, .bool false] 35) :
    Calls Try.prog 50 #[(Value.pointer (some ⟨pc, 0, none⟩)), (Value.pointer (some ⟨pp, 0, none⟩)), (Value.pointer (some ⟨pa, 0, none⟩))] w fun r w' =>
      (flStep size max L ⟨k, A, B⟩ = none ∧ (∃ u pv, r = .panicked [{ v := .iface u pv, recovered := false }]) ∧ Ext w w') ∨
      (∃ L' v', flStep size max L ⟨k, A, B⟩ = some L' ∧ r = .returned (.tuple #[]) ∧ InfP w' b v' size max L' ∧ FreshV w v v' ∧ Blk w' pa #[.int .i64 L'.length, .bool (fullB size max L'), .bool false] 35 ∧ Chg (fun k => k = pa ∨ InfF b v k) w w') := by
  have c0 := hc.cell 0
  have c1 := hc.cell 1
  have c2 := hc.cell 2
  have p0 := hp.cell 0
  simp at c0 c1 c2 p0
  have hq1 : ¬ pp = pa := fun e => by subst e; exact hp.ne ha (by decide) rfl
  have hq2 : ¬ pa = pp := fun e => hq1 e.symm
  have X := Lib.hid h
  have hnb := h.notF ha (by decide) (by decide)
  have hnp := h.notF hp (by decide) (by decide)
  have HA := Lib.hid ha
  have HPP := Lib.hid hp
  have NB := Lib.hid hnb
  have NP := Lib.hid hnp
  clear h hc hp ha hnb hnp
  have HI1 := Lib.hid X.out
  have a01 := HA.out.cell 0
  have a11 := HA.out.cell 1
  have af0 := HA.out.free 0
  have af1 := HA.out.free 1
  simp at a01 a11
  go_enter Try.func50, Try.ntmps50
  go_wp2_with fail
  go_region_held3 (fun w' => w'.cell? ⟨pp, 0, none⟩ = some (Value.pointer (some ⟨b, 0, none⟩))) (go_keep) (first | (go_at_call 53; refine (count_any b v size max (L) _ (HI1.out.ext (by (repeat (first | with_reducible exact Ext.refl _ | with_reducible assumption | with_reducible apply Ext.alloc | with_reducible apply Ext.drew | with_reducible apply Ext.drewN | (with_reducible refine Ext.trans ?_ (by assumption)) | ((with_reducible refine Ext.set ?_ ?_ _); rotate_left; (focus (first | (simp; done) | omega | (simp; omega))))))))).mono ?_; rintro e w2 ⟨rfl, rfl⟩) | (go_at_call 54; refine (full_any b v size max (L) _ (HI1.out.ext (by (repeat (first | with_reducible exact Ext.refl _ | with_reducible assumption | with_reducible apply Ext.alloc | with_reducible apply Ext.drew | with_reducible apply Ext.drewN | (with_reducible refine Ext.trans ?_ (by assumption)) | ((with_reducible refine Ext.set ?_ ?_ _); rotate_left; (focus (first | (simp; done) | omega | (simp; omega))))))))).mono ?_; rintro e w3 ⟨rfl, n3, rfl⟩))
  refine bodyPost_end (results_none rfl _ _ _) rfl (.inr (flightDone (L := L) (c := ⟨k, A, B⟩) (v' := v) (L' := L) (w1 := w) (by simp [flStep, h1, h2, h3]) rfl HI1.out (fun _ h => .inl h) (Chg.refl _ _) HA.out))
set_option maxRecDepth 100000 in
set_option maxHeartbeats 2000000 in
theorem flightReset (pc pp pa b : Nat) (v : Value) (size : Nat) (max : Int) (L : List (Int × Int)) (A B : Int) (w : World) (h : InfP w b v size max L) (hA : 0 ≤ A ∧ A < 18446744073709551616) (hB : 0 ≤ B ∧ B < 18446744073709551616)
    (hc : Blk w pc #[.int .i64 3, .int .u64 A, .int .u64 B] 31) (hp : Blk w pp #[(Value.pointer (some ⟨b, 0, none⟩))] 72) (ha : Blk w pa #[.int .i64 0, .bool false, .bool false] 35) :
    Calls Try.prog 50 #[(Value.pointer (some ⟨pc, 0, none⟩)), (Value.pointer (some ⟨pp, 0, none⟩)), (Value.pointer (some ⟨pa, 0, none⟩))] w fun r w' =>
      (flStep size max L ⟨3, A, B⟩ = none ∧ (∃ u pv, r = .panicked [{ v := .iface u pv, recovered := false }]) ∧ Ext w w') ∨
      (∃ L' v', flStep size max L ⟨3, A, B⟩ = some L' ∧ r = .returned (.tuple #[]) ∧ InfP w' b v' size max L' ∧ FreshV w v v' ∧ Blk w' pa #[.int .i64 L'.length, .bool (fullB size max L'), .bool false] 35 ∧ Chg (fun k => k = pa ∨ InfF b v k) w w') := by
  have c0 := hc.cell 0
  have c1 := hc.cell 1
  have c2 := hc.cell 2
  have p0 := hp.cell 0
  simp at c0 c1 c2 p0
  have hq1 : ¬ pp = pa := fun e => by subst e; exact hp.ne ha (by decide) rfl
  have hq2 : ¬ pa = pp := fun e => hq1 e.symm
  have X := Lib.hid h
  have hnb := h.notF ha (by decide) (by decide)
  have hnp := h.notF hp (by decide) (by decide)
  have HA := Lib.hid ha
  have HPP := Lib.hid hp
  have NB := Lib.hid hnb
  have NP := Lib.hid hnp
  clear h hc hp ha hnb hnp
  go_enter Try.func50, Try.ntmps50
  go_wp2_with (go_at_call 52; (with_reducible refine (zzReset_any b v size max L _ X.out).mono ?_); rintro e w1 ⟨rfl, hi1, hc1⟩; (have HI1 := Lib.hid hi1; have hpp1 : Blk w1 pp _ _ := HPP.out.chg hc1 (fun e => NP.out (.inl e)); have hpa1 : Blk w1 pa _ _ := HA.out.chg hc1 (fun e => NB.out (.inl e)); have p01 := hpp1.cell 0; have a01 := hpa1.cell 0; have a11 := hpa1.cell 1; have af0 := hpa1.free 0; have af1 := hpa1.free 1; simp at p01 a01 a11; have HPA1 := Lib.hid hpa1; have HC1 := Lib.hid hc1; clear hpa1 hpp1 hi1 hc1))
  go_region_held3 (fun w' => w'.cell? ⟨pp, 0, none⟩ = some (Value.pointer (some ⟨b, 0, none⟩))) (go_keep) (first | (go_at_call 53; refine (count_any b v size max ([]) _ (HI1.out.ext (by (repeat (first | with_reducible exact Ext.refl _ | with_reducible assumption | with_reducible apply Ext.alloc | with_reducible apply Ext.drew | with_reducible apply Ext.drewN | (with_reducible refine Ext.trans ?_ (by assumption)) | ((with_reducible refine Ext.set ?_ ?_ _); rotate_left; (focus (first | (simp; done) | omega | (simp; omega))))))))).mono ?_; rintro e w2 ⟨rfl, rfl⟩) | (go_at_call 54; refine (full_any b v size max ([]) _ (HI1.out.ext (by (repeat (first | with_reducible exact Ext.refl _ | with_reducible assumption | with_reducible apply Ext.alloc | with_reducible apply Ext.drew | with_reducible apply Ext.drewN | (with_reducible refine Ext.trans ?_ (by assumption)) | ((with_reducible refine Ext.set ?_ ?_ _); rotate_left; (focus (first | (simp; done) | omega | (simp; omega))))))))).mono ?_; rintro e w3 ⟨rfl, n3, rfl⟩))
  refine bodyPost_end (results_none rfl _ _ _) rfl (.inr (flightDone (L := L) (c := ⟨3, A, B⟩) (v' := v) (L' := []) (by simp [flStep]) rfl HI1.out (fun _ h => .inl h) (HC1.out.mono fun k _ hk => .inl hk) HPA1.out))
set_option maxRecDepth 100000 in
set_option maxHeartbeats 2000000 in
theorem flightFree (pc pp pa b : Nat) (v : Value) (size : Nat) (max : Int) (L : List (Int × Int)) (A B : Int) (w : World) (h : InfP w b v size max L) (hA : 0 ≤ A ∧ A < 18446744073709551616) (hB : 0 ≤ B ∧ B < 18446744073709551616)
    (hc : Blk w pc #[.int .i64 2, .int .u64 A, .int .u64 B] 31) (hp : Blk w pp #[(Value.pointer (some ⟨b, 0, none⟩))] 72) (ha : Blk w pa #[.int .i64 0, .bool false, .bool false] 35) :
    Calls Try.prog 50 #[(Value.pointer (some ⟨pc, 0, none⟩)), (Value.pointer (some ⟨pp, 0, none⟩)), (Value.pointer (some ⟨pa, 0, none⟩))] w fun r w' =>
      (flStep size max L ⟨2, A, B⟩ = none ∧ (∃ u pv, r = .panicked [{ v := .iface u pv, recovered := false }]) ∧ Ext w w') ∨
      (∃ L' v', flStep size max L ⟨2, A, B⟩ = some L' ∧ r = .returned (.tuple #[]) ∧ InfP w' b v' size max L' ∧ FreshV w v v' ∧ Blk w' pa #[.int .i64 L'.length, .bool (fullB size max L'), .bool false] 35 ∧ Chg (fun k => k = pa ∨ InfF b v k) w w') := by
  have c0 := hc.cell 0
  have c1 := hc.cell 1
  have c2 := hc.cell 2
  have p0 := hp.cell 0
  simp at c0 c1 c2 p0
  have hq1 : ¬ pp = pa := fun e => by subst e; exact hp.ne ha (by decide) rfl
  have hq2 : ¬ pa = pp := fun e => hq1 e.symm
  have X := Lib.hid h
  have hnb := h.notF ha (by decide) (by decide)
  have hnp := h.notF hp (by decide) (by decide)
  have HA := Lib.hid ha
  have HPP := Lib.hid hp
  have NB := Lib.hid hnb
  have NP := Lib.hid hnp
  clear h hc hp ha hnb hnp
  go_enter Try.func50, Try.ntmps50
  go_wp2_with (go_at_call 51; (with_reducible refine (freeLE_any b v size max L A _ X.out).mono ?_); rintro e w1 ⟨rfl, hi1, hc1⟩; (have HI1 := Lib.hid hi1; have hpp1 : Blk w1 pp _ _ := HPP.out.chg hc1 (fun e => NP.out (.inl e)); have hpa1 : Blk w1 pa _ _ := HA.out.chg hc1 (fun e => NB.out (.inl e)); have p01 := hpp1.cell 0; have a01 := hpa1.cell 0; have a11 := hpa1.cell 1; have af0 := hpa1.free 0; have af1 := hpa1.free 1; simp at p01 a01 a11; have HPA1 := Lib.hid hpa1; have HC1 := Lib.hid hc1; clear hpa1 hpp1 hi1 hc1))
  go_region_held3 (fun w' => w'.cell? ⟨pp, 0, none⟩ = some (Value.pointer (some ⟨b, 0, none⟩))) (go_keep) (first | (go_at_call 53; refine (count_any b v size max (freed A L) _ (HI1.out.ext (by (repeat (first | with_reducible exact Ext.refl _ | with_reducible assumption | with_reducible apply Ext.alloc | with_reducible apply Ext.drew | with_reducible apply Ext.drewN | (with_reducible refine Ext.trans ?_ (by assumption)) | ((with_reducible refine Ext.set ?_ ?_ _); rotate_left; (focus (first | (simp; done) | omega | (simp; omega))))))))).mono ?_; rintro e w2 ⟨rfl, rfl⟩) | (go_at_call 54; refine (full_any b v size max (freed A L) _ (HI1.out.ext (by (repeat (first | with_reducible exact Ext.refl _ | with_reducible assumption | with_reducible apply Ext.alloc | with_reducible apply Ext.drew | with_reducible apply Ext.drewN | (with_reducible refine Ext.trans ?_ (by assumption)) | ((with_reducible refine Ext.set ?_ ?_ _); rotate_left; (focus (first | (simp; done) | omega | (simp; omega))))))))).mono ?_; rintro e w3 ⟨rfl, n3, rfl⟩))
  refine bodyPost_end (results_none rfl _ _ _) rfl (.inr (flightDone (L := L) (c := ⟨2, A, B⟩) (v' := v) (L' := freed A L) (by simp [flStep]) rfl HI1.out (fun _ h => .inl h) (HC1.out.mono fun k _ hk => .inl hk) HPA1.out))
set_option maxRecDepth 100000 in
set_option maxHeartbeats 2000000 in
theorem flightAdd (pc pp pa b : Nat) (v : Value) (size : Nat) (max : Int) (L : List (Int × Int)) (A B : Int) (w : World) (h : InfP w b v size max L) (hA : 0 ≤ A ∧ A < 18446744073709551616) (hB : 0 ≤ B ∧ B < 18446744073709551616)
    (hc : Blk w pc #[.int .i64 1, .int .u64 A, .int .u64 B] 31) (hp : Blk w pp #[(Value.pointer (some ⟨b, 0, none⟩))] 72) (ha : Blk w pa #[.int .i64 0, .bool false, .bool false] 35) :
    Calls Try.prog 50 #[(Value.pointer (some ⟨pc, 0, none⟩)), (Value.pointer (some ⟨pp, 0, none⟩)), (Value.pointer (some ⟨pa, 0, none⟩))] w fun r w' =>
      (flStep size max L ⟨1, A, B⟩ = none ∧ (∃ u pv, r = .panicked [{ v := .iface u pv, recovered := false }]) ∧ Ext w w') ∨
      (∃ L' v', flStep size max L ⟨1, A, B⟩ = some L' ∧ r = .returned (.tuple #[]) ∧ InfP w' b v' size max L' ∧ FreshV w v v' ∧ Blk w' pa #[.int .i64 L'.length, .bool (fullB size max L'), .bool false] 35 ∧ Chg (fun k => k = pa ∨ InfF b v k) w w') := by
  have c0 := hc.cell 0
  have c1 := hc.cell 1
  have c2 := hc.cell 2
  have p0 := hp.cell 0
  simp at c0 c1 c2 p0
  have hq1 : ¬ pp = pa := fun e => by subst e; exact hp.ne ha (by decide) rfl
  have hq2 : ¬ pa = pp := fun e => hq1 e.symm
  have X := Lib.hid h
  have hnb := h.notF ha (by decide) (by decide)
  have hnp := h.notF hp (by decide) (by decide)
  have HA := Lib.hid ha
  have HPP := Lib.hid hp
  have NB := Lib.hid hnb
  have NP := Lib.hid hnp
  clear h hc hp ha hnb hnp
  obtain ⟨L1, hL1⟩ : ∃ l, l = L ++ [(A, B)] := ⟨_, rfl⟩
  have HL1 := Lib.hid hL1
  clear hL1
  go_enter Try.func50, Try.ntmps50
  go_wp2_with (go_at_call 36; (with_reducible refine (add_any b v size max L A B _ X.out hA hB).mono ?_); rintro e w1 (⟨hf, ⟨u, pv, rfl⟩, hx⟩ | ⟨hf, rfl, v', hi1, hfr1, hc1⟩))
  · go_wp2
    exact ⟨rfl, .inl ⟨by simp [flStep, hf], ⟨u, pv, rfl⟩, hx⟩⟩
  · have hff : fullB size max L = false := hf
    rw [← HL1.out] at hi1
    (have HI1 := Lib.hid hi1; have hpp1 : Blk w1 pp _ _ := HPP.out.chg hc1 NP.out; have hpa1 : Blk w1 pa _ _ := HA.out.chg hc1 NB.out; have p01 := hpp1.cell 0; have a01 := hpa1.cell 0; have a11 := hpa1.cell 1; have af0 := hpa1.free 0; have af1 := hpa1.free 1; simp at p01 a01 a11; have HPA1 := Lib.hid hpa1; have HC1 := Lib.hid hc1; have HFF := Lib.hid hff; have HFR := Lib.hid hfr1; clear hpa1 hpp1 hi1 hc1 hf hff hfr1)
    go_wp2_with fail
    go_region_held3 (fun w' => w'.cell? ⟨pp, 0, none⟩ = some (Value.pointer (some ⟨b, 0, none⟩))) (go_keep) (first | (go_at_call 53; refine (count_any b v' size max L1 _ (HI1.out.ext (by (repeat (first | with_reducible exact Ext.refl _ | with_reducible assumption | with_reducible apply Ext.alloc | with_reducible apply Ext.drew | with_reducible apply Ext.drewN | (with_reducible refine Ext.trans ?_ (by assumption)) | ((with_reducible refine Ext.set ?_ ?_ _); rotate_left; (focus (first | (simp; done) | omega | (simp; omega))))))))).mono ?_; rintro e w2 ⟨rfl, rfl⟩) | (go_at_call 54; refine (full_any b v' size max L1 _ (HI1.out.ext (by (repeat (first | with_reducible exact Ext.refl _ | with_reducible assumption | with_reducible apply Ext.alloc | with_reducible apply Ext.drew | with_reducible apply Ext.drewN | (with_reducible refine Ext.trans ?_ (by assumption)) | ((with_reducible refine Ext.set ?_ ?_ _); rotate_left; (focus (first | (simp; done) | omega | (simp; omega))))))))).mono ?_; rintro e w3 ⟨rfl, n3, rfl⟩))
    have hs : flStep size max L ⟨1, A, B⟩ = some L1 := by
      have e1 := HFF.out
      have e2 := HL1.out
      subst e2
      simp only [flStep, if_true, e1]
      rfl
    have D := flightDone (pa := pa) (n := 1 + n3) hs (r := .returned (.tuple #[])) rfl HI1.out HFR.out HC1.out HPA1.out
    clear HI1 HFR HC1 HPA1
    refine bodyPost_end (results_none rfl _ _ _) rfl (.inr D)
theorem flightClosure (pc pp pa b : Nat) (v : Value) (size : Nat) (max : Int) (L : List (Int × Int)) (c : FCall) (w : World) (h : InfP w b v size max L) (hA : 0 ≤ c.A ∧ c.A < 18446744073709551616) (hB : 0 ≤ c.B ∧ c.B < 18446744073709551616)
    (hc : Blk w pc #[.int .i64 c.kind, .int .u64 c.A, .int .u64 c.B] 31) (hp : Blk w pp #[(Value.pointer (some ⟨b, 0, none⟩))] 72) (ha : Blk w pa #[.int .i64 0, .bool false, .bool false] 35) :
    Calls Try.prog 50 #[(Value.pointer (some ⟨pc, 0, none⟩)), (Value.pointer (some ⟨pp, 0, none⟩)), (Value.pointer (some ⟨pa, 0, none⟩))] w fun r w' =>
      (flStep size max L c = none ∧ (∃ u pv, r = .panicked [{ v := .iface u pv, recovered := false }]) ∧ Ext w w') ∨
      (∃ L' v', flStep size max L c = some L' ∧ r = .returned (.tuple #[]) ∧ InfP w' b v' size max L' ∧ FreshV w v v' ∧ Blk w' pa #[.int .i64 L'.length, .bool (fullB size max L'), .bool false] 35 ∧ Chg (fun k => k = pa ∨ InfF b v k) w w') := by
  obtain ⟨k, A, B⟩ := c
  by_cases h1 : k = 1
  · subst h1; exact flightAdd pc pp pa b v size max L A B w h hA hB hc hp ha
  · by_cases h2 : k = 2
    · subst h2; exact flightFree pc pp pa b v size max L A B w h hA hB hc hp ha
    · by_cases h3 : k = 3
      · subst h3; exact flightReset pc pp pa b v size max L A B w h hA hB hc hp ha
      · exact flightOther pc pp pa b v size max L k A B h1 h2 h3 w h hA hB hc hp ha
end Go.Proofs.Ythfdhamencefiaa
