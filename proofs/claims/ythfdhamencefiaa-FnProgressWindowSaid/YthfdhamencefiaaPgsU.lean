/-
  A progress: an acknowledgement, entries that were sent.
-/
import Derived.Test.YthfdhamencefiaaRows
import Derived.Test.YthfdhamencefiaaBase
import Derived.Test.YthfdhamencefiaaSees
import Derived.Test.YthfdhamencefiaaInfl
import Derived.Test.YthfdhamencefiaaInflA
import Derived.Test.YthfdhamencefiaaInflF
import Derived.Test.YthfdhamencefiaaInflC
import Derived.Test.YthfdhamencefiaaFlight
import Derived.Test.YthfdhamencefiaaFlightB
import Derived.Test.YthfdhamencefiaaPgs
import Derived.Deep.RegionHeld3
import Derived.Deep.QuietTactic
import Derived.BigQuiet
import Derived.IntWalk
set_option linter.unusedVariables false
set_option linter.unusedSimpArgs false
namespace Go.Proofs.Ythfdhamencefiaa
open Go.RowKit

theorem PgP.notF {w : World} {p b : Nat} {v : Value} {size : Nat} {max : Int} {s : PgS} (h : PgP w p b v size max s) : ¬ InfF b v p := h.inf.notF h.blk (by decide) (by decide)

/-- MaybeUpdate. -/
def PgS.upd (s : PgS) (n : Int) : PgS := if n ≤ s.mt then s else { s with mt := n, nx := if n + 1 ≤ s.nx then s.nx else n + 1, pau := false }

set_option maxHeartbeats 1000000 in
theorem maybeUpdate_any (p b : Nat) (v : Value) (size : Nat) (max : Int) (s : PgS) (n : Int) (w : World) (h : PgP w p b v size max s) (hn : 0 ≤ n ∧ n + 1 < 18446744073709551616) :
    Calls Try.prog 63 #[(Value.pointer (some ⟨p, 0, none⟩)), .int .u64 n] w fun r w' => r = .returned (.bool (!decide (n ≤ s.mt))) ∧ PgP w' p b v size max (s.upd n) ∧ Chg (fun k => k = p) w w' := by
  have hb := h.blk
  have c0 := hb.cell 0
  have c1 := hb.cell 1
  have c6 := hb.cell 6
  have f0 := hb.free 0
  have f1 := hb.free 1
  have f6 := hb.free 6
  simp [PgS.cells] at c0 c1 c6
  have H := Lib.hid h
  clear h hb
  by_cases g : n ≤ s.mt
  · have HU := Lib.hid (show s.upd n = s by unfold PgS.upd; rw [if_pos g])
    go_enter Try.func63, Try.ntmps63
    go_wp2
    refine bodyPost_ret (results_tmp rfl _ _ _) rfl ?_
    exact ⟨by simp [g], by rw [HU.out]; exact H.out, Chg.refl _ _⟩
  · have hw : IntKind.u64.wrap (n + 1) = n + 1 := by rw [IntKind.wrap_u64]; omega
    obtain ⟨nx', hnx⟩ : ∃ x, x = if n + 1 ≤ s.nx then s.nx else n + 1 := ⟨_, rfl⟩
    have HU := Lib.hid (show s.upd n = { s with mt := n, nx := nx', pau := false } by unfold PgS.upd; rw [if_neg g, hnx])
    have hr : 0 ≤ nx' ∧ nx' < 18446744073709551616 := by
      have := H.out.rng.2.1
      unfold inU1 at this
      rw [hnx]
      split <;> omega
    by_cases g2 : n + 1 ≤ s.nx
    · rw [if_pos g2] at hnx
      subst hnx
      go_enter Try.func63, Try.ntmps63
      go_wp2
      refine bodyPost_ret (results_tmp rfl _ _ _) rfl ?_
      have hS : Chg (fun k => k = p) w (((w.setCell ⟨p, 0, none⟩ (.int .u64 n)).setCell ⟨p, 1, none⟩ (.int .u64 s.nx)).setCell ⟨p, 6, none⟩ (.bool false)) :=
        (((Chg.refl (fun k => k = p) w).set (p := ⟨p, 0, none⟩) (.inl rfl) _).set (p := ⟨p, 1, none⟩) (.inl rfl) _).set (p := ⟨p, 6, none⟩) (.inl rfl) _
      refine ⟨by simp; omega, ⟨?_, ?_, ?_, ?_⟩, hS⟩
      · rw [HU.out]
        exact (((H.out.blk.set 0 _).set 1 _).set 6 _)
      · rw [HU.out]
        exact H.out.inf.chg hS (fun k hk => by subst hk; exact H.out.notF)
      · rw [HU.out]
        exact ⟨⟨hn.1, show n < 18446744073709551616 by omega⟩, hr, H.out.rng.2.2⟩
      · rw [HU.out]; exact H.out.three
    · rw [if_neg g2] at hnx
      subst hnx
      go_enter Try.func63, Try.ntmps63
      go_wp2
      refine bodyPost_ret (results_tmp rfl _ _ _) rfl ?_
      have hS : Chg (fun k => k = p) w (((w.setCell ⟨p, 0, none⟩ (.int .u64 n)).setCell ⟨p, 1, none⟩ (.int .u64 (n + 1))).setCell ⟨p, 6, none⟩ (.bool false)) :=
        (((Chg.refl (fun k => k = p) w).set (p := ⟨p, 0, none⟩) (.inl rfl) _).set (p := ⟨p, 1, none⟩) (.inl rfl) _).set (p := ⟨p, 6, none⟩) (.inl rfl) _
      refine ⟨by simp; omega, ⟨?_, ?_, ?_, ?_⟩, hS⟩
      · rw [HU.out]
        exact (((H.out.blk.set 0 _).set 1 _).set 6 _)
      · rw [HU.out]
        exact H.out.inf.chg hS (fun k hk => by subst hk; exact H.out.notF)
      · rw [HU.out]
        exact ⟨⟨hn.1, show n < 18446744073709551616 by omega⟩, hr, H.out.rng.2.2⟩
      · rw [HU.out]; exact H.out.three

/-- SentEntries while replicating, one entry at the least, and there is room. -/
def PgS.sentR (s : PgS) (size : Nat) (max : Int) (n bytes : Int) : PgS := { s with nx := s.nx + n, pau := fullB size max (s.L ++ [(s.nx + n - 1, bytes)]), L := s.L ++ [(s.nx + n - 1, bytes)] }

set_option maxRecDepth 100000 in
set_option maxHeartbeats 2000000 in
theorem sentEntries_any (p b : Nat) (v : Value) (size : Nat) (max : Int) (s : PgS) (n bytes : Int) (w : World) (h : PgP w p b v size max s) (hst : s.st = 1) (hn : 0 < n ∧ n < 2147483648 ∧ s.nx + n < 18446744073709551616) (hby : 0 ≤ bytes ∧ bytes < 18446744073709551616) (hroom : fullB size max s.L = false) :
    Calls Try.prog 65 #[(Value.pointer (some ⟨p, 0, none⟩)), .int .i64 n, .int .u64 bytes] w fun r w' => r = .returned (.tuple #[]) ∧ ∃ v', PgP w' p b v' size max (s.sentR size max n bytes) ∧ FreshV w v v' ∧ Chg (PgF p b v) w w' := by
  have hb := h.blk
  have c1 := hb.cell 1
  have c3 := hb.cell 3
  have c6 := hb.cell 6
  have c7 := hb.cell 7
  have f1 := hb.free 1
  have f6 := hb.free 6
  simp [PgS.cells] at c1 c3 c6 c7
  rw [hst] at c3
  have hnx := h.rng.2.1
  unfold inU1 at hnx
  have w1 : IntKind.u64.wrap n = n := by rw [IntKind.wrap_u64]; omega
  have w2 : IntKind.u64.wrap (s.nx + n) = s.nx + n := by rw [IntKind.wrap_u64]; omega
  have w3 : IntKind.u64.wrap (s.nx + n - 1) = s.nx + n - 1 := by rw [IntKind.wrap_u64]; omega
  have H := Lib.hid h
  have HR := Lib.hid hroom
  obtain ⟨hn0, hn1, hn2⟩ := hn
  clear h hb hroom
  go_enter Try.func65, Try.ntmps65
  have hP1 : PgP (w.setCell ⟨p, 1, none⟩ (.int .u64 (s.nx + n))) p b v size max { s with nx := s.nx + n } :=
    ⟨H.out.blk.set 1 _, H.out.inf.chg ((Chg.refl (fun k => k = p) w).set (p := ⟨p, 1, none⟩) (.inl rfl) _) (fun k hk => by subst hk; exact H.out.notF), ⟨H.out.rng.1, ⟨by show 0 ≤ s.nx + n; omega, hn2⟩, H.out.rng.2.2⟩, H.out.three⟩
  have P1 := Lib.hid hP1
  have hC1 : Chg (fun k => k = p) w (w.setCell ⟨p, 1, none⟩ (.int .u64 (s.nx + n))) := (Chg.refl (fun k => k = p) w).set (p := ⟨p, 1, none⟩) (.inl rfl) _
  have C1 := Lib.hid hC1
  clear hP1 hC1
  go_wp2_with fail
  obtain ⟨W1, hW1⟩ : ∃ W, W = w.setCell ⟨p, 1, none⟩ (.int .u64 (s.nx + n)) := ⟨_, rfl⟩
  rw [← hW1] at P1 C1 ⊢
  clear hW1
  have g1 := P1.out.blk.cell 1
  have g7 := P1.out.blk.cell 7
  simp [PgS.cells] at g1 g7
  go_region_held3 (fun w' => w'.cell? ⟨p, 1, none⟩ = some (.int .u64 (s.nx + n)) ∧ w'.cell? ⟨p, 7, none⟩ = some (Value.pointer (some ⟨b, 0, none⟩))) (go_keep)
    (first | (go_at_call 36; (with_reducible refine (add_any b v size max s.L (s.nx + n - 1) bytes _ (P1.out.inf.ext (by (repeat (first | with_reducible exact Ext.refl _ | with_reducible assumption | with_reducible apply Ext.alloc | with_reducible apply Ext.drew | with_reducible apply Ext.drewN | (with_reducible refine Ext.trans ?_ (by assumption)) | ((with_reducible refine Ext.set ?_ ?_ _); rotate_left; (focus (first | (simp; done) | omega | (simp; omega)))))))) (by omega) hby).mono ?_); rintro e w1 (⟨hf, _⟩ | ⟨hf, rfl, v', hi1, hfr1, hc1⟩); (exact absurd (HR.out.symm.trans hf) (by decide)); (have hb2 := (P1.out.blk.drewN _).chg hc1 P1.out.notF; have d1 := hb2.cell 1; have d7 := hb2.cell 7; have d6 := hb2.cell 6; have e6 := hb2.free 6; simp [PgS.cells] at d1 d7 d6; have I2 := Lib.hid hi1; have B2 := Lib.hid hb2; have C2 := Lib.hid hc1; have FR := Lib.hid hfr1; clear hi1 hb2 hc1 hfr1 hf)))
  obtain ⟨L1, hL1⟩ : ∃ l, l = s.L ++ [(s.nx + n - 1, bytes)] := ⟨_, rfl⟩
  rw [← hL1] at I2
  have HL1 := Lib.hid hL1
  clear hL1
  go_wp2_with (first | (go_at_call 54; refine (full_any b v' size max L1 _ I2.out).mono ?_; rintro e w3 ⟨rfl, n3, rfl⟩) | fail)
  have hS : Chg (fun k => k = p) w1 ((w1.drewN n3).setCell ⟨p, 6, none⟩ (.bool (fullB size max L1))) := ((Chg.refl (fun k => k = p) w1).drewN n3).set (p := ⟨p, 6, none⟩) (.inl rfl) _
  have hnf : ¬ InfF b v' p := I2.out.notF B2.out (by decide) (by decide)
  have hsr : s.sentR size max n bytes = { s with nx := s.nx + n, pau := fullB size max L1, L := L1 } := by unfold PgS.sentR; rw [← HL1.out]
  refine bodyPost_end (results_none rfl _ _ _) rfl ⟨rfl, v', ⟨?_, ?_, ?_, ?_⟩, ?_, ?_⟩
  · rw [hsr]; exact (B2.out.drewN n3).set 6 _
  · rw [hsr]; exact I2.out.chg hS (fun k hk => by subst hk; exact hnf)
  · rw [hsr]; exact ⟨H.out.rng.1, ⟨by show 0 ≤ s.nx + n; omega, hn2⟩, H.out.rng.2.2⟩
  · rw [hsr]; exact H.out.three
  · exact fun k hk => (FR.out k hk).imp id (fun h => Nat.le_trans C1.out.size h)
  · have q1 : Chg (PgF p b v) w W1 := C1.out.mono (fun k _ hk => .inl hk)
    have q2 : Chg (PgF p b v) W1 w1 := ((Chg.refl (PgF p b v) W1).drew).trans (C2.out.mono (fun k _ hk => .inr hk))
    have q3 : Chg (PgF p b v) w1 ((w1.drewN n3).setCell ⟨p, 6, none⟩ (.bool (fullB size max L1))) := hS.mono (fun k _ hk => .inl hk)
    exact (q1.trans q2).trans q3
end Go.Proofs.Ythfdhamencefiaa
