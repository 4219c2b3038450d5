/-
  A call on a progress: an acknowledgement (5), entries sent while replicating (7), flights freed (10).
-/
import Derived.Test.YthfdhamencefiaaRows
import Derived.Test.YthfdhamencefiaaBase
import Derived.Test.YthfdhamencefiaaSees
import Derived.Test.YthfdhamencefiaaInfl
import Derived.Test.YthfdhamencefiaaInflA
import Derived.Test.YthfdhamencefiaaInflF
import Derived.Test.YthfdhamencefiaaInflC
import Derived.Test.YthfdhamencefiaaFlight
import Derived.Test.YthfdhamencefiaaFlightB
import Derived.Test.YthfdhamencefiaaPgs
import Derived.Test.YthfdhamencefiaaPgsU
import Derived.Deep.RegionHeld3
import Derived.Deep.QuietTactic
import Derived.BigQuiet
import Derived.IntWalk
set_option linter.unusedVariables false
set_option linter.unusedSimpArgs false
namespace Go.Proofs.Ythfdhamencefiaa
open Go.RowKit

/-- What a call says and makes of it; none: such a call is not looked at here. -/
def pgStep (size : Nat) (max : Int) (s : PgS) (c : FCall) : Option (Bool × PgS) :=
  if c.kind = 5 then (if 0 ≤ c.A ∧ c.A + 1 < 18446744073709551616 then some (!decide (c.A ≤ s.mt), s.upd c.A) else none)
  else if c.kind = 7 then (if s.st = 1 ∧ (0 < c.A ∧ c.A < 2147483648 ∧ s.nx + c.A < 18446744073709551616) ∧ (0 ≤ c.B ∧ c.B < 18446744073709551616) ∧ fullB size max s.L = false then some (false, s.sentR size max c.A c.B) else none)
  else if c.kind = 10 then some (false, { s with L := freed c.A s.L })
  else none

theorem InfP.stays {w w' : World} {b : Nat} {v v' : Value} {size : Nat} {max : Int} {L : List (Int × Int)} {p : Nat} {c : Array Value} {t : TypeId} (hp : Blk w p c t) (h : InfP w b v size max L) (h1 : t ≠ 99) (h2 : t ≠ 103) (hf : Chg (InfF b v) w w') : Blk w' p c t := hp.chg hf (h.notF hp h1 h2)

set_option maxRecDepth 100000 in
set_option maxHeartbeats 2000000 in
theorem prog5 (p b : Nat) (v : Value) (size : Nat) (max : Int) (s : PgS) (A B : Int) (w : World) (h : PgP w p b v size max s) (hA : 0 ≤ A ∧ A + 1 < 18446744073709551616) :
    Calls Try.prog 39 #[(Value.pointer (some ⟨p, 0, none⟩)), .agg #[.int .i64 5, .int .u64 A, .int .u64 B]] w fun r w' => r = .returned (.bool (!decide (A ≤ s.mt))) ∧ PgP w' p b v size max (s.upd A) ∧ Chg (fun k => k = p) w w' := by
  have H := Lib.hid h
  have hlt := h.blk.lt
  obtain ⟨f, hf⟩ : ∃ f, f = (!decide (A ≤ s.mt)) := ⟨_, rfl⟩
  rw [← hf]
  have HF := Lib.hid hf
  clear h hf
  go_enter Try.func39, Try.ntmps39
  go_wp2_with (first | (go_at_call 63; refine (maybeUpdate_any p b v size max s A _ (H.out.ext (by (repeat (first | with_reducible exact Ext.refl _ | with_reducible assumption | with_reducible apply Ext.alloc | with_reducible apply Ext.drew | with_reducible apply Ext.drewN | (with_reducible refine Ext.trans ?_ (by assumption)) | ((with_reducible refine Ext.set ?_ ?_ _); rotate_left; (focus (first | (simp; done) | omega | (simp; omega)))))))) hA).mono ?_; rintro e w1 ⟨rfl, hp1, hc1⟩; rw [← HF.out]; have P1 := Lib.hid hp1; have C1 := Lib.hid hc1; clear hp1 hc1) | fail)
  refine bodyPost_ret (results_tmp rfl _ _ _) rfl ?_
  exact ⟨rfl, P1.out, ((Chg.refl _ w).alloc _).trans C1.out⟩

set_option maxRecDepth 100000 in
set_option maxHeartbeats 2000000 in
theorem prog7 (p b : Nat) (v : Value) (size : Nat) (max : Int) (s : PgS) (A B : Int) (w : World) (h : PgP w p b v size max s) (hst : s.st = 1) (hn : 0 < A ∧ A < 2147483648 ∧ s.nx + A < 18446744073709551616) (hby : 0 ≤ B ∧ B < 18446744073709551616) (hroom : fullB size max s.L = false) :
    Calls Try.prog 39 #[(Value.pointer (some ⟨p, 0, none⟩)), .agg #[.int .i64 7, .int .u64 A, .int .u64 B]] w fun r w' => r = .returned (.bool false) ∧ ∃ v', PgP w' p b v' size max (s.sentR size max A B) ∧ FreshV w v v' ∧ Chg (PgF p b v) w w' := by
  have H := Lib.hid h
  have HS := Lib.hid hst
  have HR := Lib.hid hroom
  have HN := Lib.hid hn
  have w1 : IntKind.i64.wrap A = A := by rw [IntKind.wrap_i64]; omega
  clear h hst hroom hn
  go_enter Try.func39, Try.ntmps39
  go_wp2_with (first | (go_at_call 65; refine (sentEntries_any p b v size max s A B _ (H.out.ext (by (repeat (first | with_reducible exact Ext.refl _ | with_reducible assumption | with_reducible apply Ext.alloc | with_reducible apply Ext.drew | with_reducible apply Ext.drewN | (with_reducible refine Ext.trans ?_ (by assumption)) | ((with_reducible refine Ext.set ?_ ?_ _); rotate_left; (focus (first | (simp; done) | omega | (simp; omega)))))))) HS.out HN.out hby HR.out).mono ?_; rintro e w1 ⟨rfl, v', hp1, hf1, hc1⟩; have P1 := Lib.hid hp1; have C1 := Lib.hid hc1; have F1 := Lib.hid hf1; clear hp1 hc1 hf1) | fail)
  refine bodyPost_ret (results_tmp rfl _ _ _) rfl ?_
  exact ⟨rfl, v', P1.out, F1.out.chg (by simp), ((Chg.refl _ w).alloc _).trans C1.out⟩

set_option maxRecDepth 100000 in
set_option maxHeartbeats 2000000 in
theorem prog10 (p b : Nat) (v : Value) (size : Nat) (max : Int) (s : PgS) (A B : Int) (w : World) (h : PgP w p b v size max s) :
    Calls Try.prog 39 #[(Value.pointer (some ⟨p, 0, none⟩)), .agg #[.int .i64 10, .int .u64 A, .int .u64 B]] w fun r w' => r = .returned (.bool false) ∧ PgP w' p b v size max { s with L := freed A s.L } ∧ Chg (PgF p b v) w w' := by
  have c7 := h.blk.cell 7
  simp [PgS.cells] at c7
  have hlt := h.blk.lt
  have H := Lib.hid h
  clear h
  go_enter Try.func39, Try.ntmps39
  go_wp2_with fail
  obtain ⟨W1, hW1⟩ : ∃ W, W = w.alloc (.cells #[.int .i64 10, .int .u64 A, .int .u64 B] 60) := ⟨_, rfl⟩
  have E1 : Ext w W1 := by rw [hW1]; exact (Ext.refl w).alloc _
  have hkb : Blk W1 w.heap.size #[.int .i64 10, .int .u64 A, .int .u64 B] 60 := by rw [hW1]; exact Blk.new w _ _
  have k1 : W1.cell? ⟨w.heap.size, 1, none⟩ = some (.int .u64 A) := hkb.cell 1
  have KB := Lib.hid hkb
  rw [← hW1]
  clear hkb
  clear hW1
  have P1 := Lib.hid (H.out.ext E1)
  have g7 := P1.out.blk.cell 7
  simp [PgS.cells] at g7
  go_region_held3 (fun w' => w'.cell? ⟨p, 7, none⟩ = some (Value.pointer (some ⟨b, 0, none⟩)) ∧ w'.cell? ⟨w.heap.size, 1, none⟩ = some (.int .u64 A)) (go_keep)
    (first | (go_at_call 51; (with_reducible refine (freeLE_any b v size max s.L A _ (P1.out.inf.ext (by (repeat (first | with_reducible exact Ext.refl _ | with_reducible assumption | with_reducible apply Ext.alloc | with_reducible apply Ext.drew | with_reducible apply Ext.drewN | (with_reducible refine Ext.trans ?_ (by assumption)) | ((with_reducible refine Ext.set ?_ ?_ _); rotate_left; (focus (first | (simp; done) | omega | (simp; omega))))))))).mono ?_); rintro e w1 ⟨rfl, hi1, hc1⟩; have I1 := Lib.hid hi1; have C1 := Lib.hid hc1; have hb2 := (P1.out.blk.drewN _).chg hc1 (fun e => P1.out.notF (.inl e)); have d7 := hb2.cell 7; simp [PgS.cells] at d7; have hkb2 := (KB.out.drewN _).chg hc1 (fun e => P1.out.inf.notF KB.out (by decide) (by decide) (.inl e)); have d8 := hkb2.cell 1; simp at d8; have B2 := Lib.hid hb2; clear hi1 hc1 hb2 hkb2))
  go_wp2
  refine bodyPost_ret (results_tmp rfl _ _ _) rfl ⟨rfl, ⟨?_, ?_, ?_, ?_⟩, ?_⟩
  · exact B2.out
  · exact I1.out
  · exact H.out.rng
  · exact H.out.three
  · have q1 : Chg (PgF p b v) w W1 := Chg.of_ext E1
    have q2 : Chg (PgF p b v) W1 w1 := ((Chg.refl (PgF p b v) W1).drewN _).trans (C1.out.mono (fun k _ hk => .inr (.inl hk)))
    exact q1.trans q2

/-- One call, any of those that are looked at. -/
theorem prog_any (p b : Nat) (v : Value) (size : Nat) (max : Int) (s : PgS) (c : FCall) (f : Bool) (s' : PgS) (hs : pgStep size max s c = some (f, s')) (w : World) (h : PgP w p b v size max s) :
    Calls Try.prog 39 #[(Value.pointer (some ⟨p, 0, none⟩)), .agg #[.int .i64 c.kind, .int .u64 c.A, .int .u64 c.B]] w fun r w' => r = .returned (.bool f) ∧ ∃ v', PgP w' p b v' size max s' ∧ FreshV w v v' ∧ Chg (PgF p b v) w w' := by
  obtain ⟨k, A, B⟩ := c
  unfold pgStep at hs
  simp only at hs
  split at hs
  · rename_i hk
    subst hk
    split at hs
    · rename_i hA
      simp only [Option.some.injEq, Prod.mk.injEq] at hs
      obtain ⟨rfl, rfl⟩ := hs
      refine (prog5 p b v size max s A B w h hA).mono ?_
      rintro e w' ⟨rfl, h1, h2⟩
      exact ⟨rfl, v, h1, FreshV.refl _ _, h2.mono (fun k _ hk => .inl hk)⟩
    · cases hs
  · split at hs
    · rename_i hk
      subst hk
      split at hs
      · rename_i hA
        simp at hs
        obtain ⟨rfl, rfl⟩ := hs
        exact prog7 p b v size max s A B w h hA.1 hA.2.1 hA.2.2.1 hA.2.2.2
      · cases hs
    · split at hs
      · rename_i hk
        subst hk
        simp at hs
        obtain ⟨rfl, rfl⟩ := hs
        refine (prog10 p b v size max s A B w h).mono ?_
        rintro e w' ⟨rfl, h1, h2⟩
        exact ⟨rfl, v, h1, FreshV.refl _ _, h2⟩
      · cases hs
end Go.Proofs.Ythfdhamencefiaa
