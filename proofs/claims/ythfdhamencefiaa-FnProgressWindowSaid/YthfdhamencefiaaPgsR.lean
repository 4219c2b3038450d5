/-
  ProgressRun's two closures.
-/
import Derived.Test.YthfdhamencefiaaRows
import Derived.Test.YthfdhamencefiaaBase
import Derived.Test.YthfdhamencefiaaSees
import Derived.Test.YthfdhamencefiaaInfl
import Derived.Test.YthfdhamencefiaaInflA
import Derived.Test.YthfdhamencefiaaFlight
import Derived.Test.YthfdhamencefiaaFlightB
import Derived.Test.YthfdhamencefiaaPgs
import Derived.Test.YthfdhamencefiaaPgsU
import Derived.Test.YthfdhamencefiaaPgsC
import Derived.Deep.RegionHeld3
set_option linter.unusedVariables false
set_option linter.unusedSimpArgs false
namespace Go.Proofs.Ythfdhamencefiaa
open Go.RowKit

def pgZero : Array Value := #[.bool false, .int .u64 0, .int .u64 0, .int .i64 0, .int .u64 0, .bool false, .bool false, .bool false, .int .i64 0, .bool false, .bool false, .bool false]
theorem chg12 {F : Nat → Prop} {w W : World} (k : Nat) (h : Chg F w W) (hk : F k ∨ w.heap.size ≤ k) (a0 a1 a2 a3 a4 a5 a6 a7 a8 a9 a10 a11 : Value) : Chg F w ((((((((((((W.setCell ⟨k, 0, none⟩ a0).setCell ⟨k, 1, none⟩ a1).setCell ⟨k, 2, none⟩ a2).setCell ⟨k, 3, none⟩ a3).setCell ⟨k, 4, none⟩ a4).setCell ⟨k, 5, none⟩ a5).setCell ⟨k, 6, none⟩ a6).setCell ⟨k, 7, none⟩ a7).setCell ⟨k, 8, none⟩ a8).setCell ⟨k, 9, none⟩ a9).setCell ⟨k, 10, none⟩ a10).setCell ⟨k, 11, none⟩ a11) :=
  Chg.set (p := ⟨k, 11, none⟩) (Chg.set (p := ⟨k, 10, none⟩) (Chg.set (p := ⟨k, 9, none⟩) (Chg.set (p := ⟨k, 8, none⟩) (Chg.set (p := ⟨k, 7, none⟩) (Chg.set (p := ⟨k, 6, none⟩) (Chg.set (p := ⟨k, 5, none⟩) (Chg.set (p := ⟨k, 4, none⟩) (Chg.set (p := ⟨k, 3, none⟩) (Chg.set (p := ⟨k, 2, none⟩) (Chg.set (p := ⟨k, 1, none⟩) (Chg.set (p := ⟨k, 0, none⟩) h hk a0) hk a1) hk a2) hk a3) hk a4) hk a5) hk a6) hk a7) hk a8) hk a9) hk a10) hk a11
theorem PgP.off {w : World} {p b : Nat} {v : Value} {size : Nat} {max : Int} {s : PgS} (h : PgP w p b v size max s) {k : Nat} {c : Array Value} {t : TypeId} (hk : Blk w k c t) (h0 : t ≠ 84) (h1 : t ≠ 99) (h2 : t ≠ 103) : ¬ PgF p b v k := by
  rintro (rfl | hf)
  · exact hk.ne h.blk h0 rfl
  · exact h.inf.notF hk h1 h2 hf

theorem PgP.chg {w w' : World} {p b : Nat} {v : Value} {size : Nat} {max : Int} {s : PgS} (h : PgP w p b v size max s) {F : Nat → Prop} (e : Chg F w w') (hF : ∀ k, F k → ¬ PgF p b v k) : PgP w' p b v size max s :=
  ⟨h.blk.chg e (fun hp => hF p hp (.inl rfl)), h.inf.chg e (fun k hk hi => hF k hk (.inr hi)), h.rng, h.three⟩

set_option maxRecDepth 100000 in
set_option maxHeartbeats 4000000 in
theorem runCall (pp pc pa p b : Nat) (v : Value) (size : Nat) (max : Int) (s : PgS) (c : FCall) (f : Bool) (s' : PgS) (hs : pgStep size max s c = some (f, s')) (w : World) (h : PgP w p b v size max s)
    (hp : Blk w pp #[(Value.pointer (some ⟨p, 0, none⟩))] 81) (hc : Blk w pc #[.int .i64 c.kind, .int .u64 c.A, .int .u64 c.B] 60) (ha : Blk w pa pgZero 62) :
    Calls Try.prog 38 #[(Value.pointer (some ⟨pp, 0, none⟩)), (Value.pointer (some ⟨pc, 0, none⟩)), (Value.pointer (some ⟨pa, 0, none⟩))] w fun r w' => r = .returned (.tuple #[]) ∧ ∃ v', PgP w' p b v' size max s' ∧ FreshV w v v' ∧ Blk w' pa (pgAns size max f s') 62 ∧ Chg (fun k => k = pa ∨ PgF p b v k) w w' := by
  have p0 := hp.cell 0
  have c0 := hc.cell 0
  have c1 := hc.cell 1
  have c2 := hc.cell 2
  simp at p0 c0 c1 c2
  have H := Lib.hid h
  have HP := Lib.hid hp
  have HC := Lib.hid hc
  have HA := Lib.hid ha
  have HS := Lib.hid hs
  have N1 := Lib.hid (h.off hp (by decide) (by decide) (by decide))
  have N2 := Lib.hid (h.off hc (by decide) (by decide) (by decide))
  have N3 := Lib.hid (h.off ha (by decide) (by decide) (by decide))
  have hq1 : ¬ pp = pa := fun e => by subst e; exact hp.ne ha (by decide) rfl
  have hq2 : ¬ pa = pp := fun e => hq1 e.symm
  have hq3 : ¬ pc = pa := fun e => by subst e; exact hc.ne ha (by decide) rfl
  have hq4 : ¬ pa = pc := fun e => hq3 e.symm
  obtain ⟨k, A, B⟩ := c
  simp only at c0 c1 c2
  clear h hp hc ha hs
  go_enter Try.func38, Try.ntmps38
  go_wp2_with fail
  go_region_held3 (fun w' => w'.cell? ⟨pp, 0, none⟩ = some (Value.pointer (some ⟨p, 0, none⟩)) ∧ w'.cell? ⟨pc, 0, none⟩ = some (.int .i64 k) ∧ w'.cell? ⟨pc, 1, none⟩ = some (.int .u64 A) ∧ w'.cell? ⟨pc, 2, none⟩ = some (.int .u64 B)) (go_keep)
    (first | (go_at_call 39; (with_reducible refine (prog_any p b v size max s ⟨k, A, B⟩ f s' HS.out _ (H.out.ext (by (repeat (first | with_reducible exact Ext.refl _ | with_reducible assumption | with_reducible apply Ext.alloc | with_reducible apply Ext.drew | with_reducible apply Ext.drewN | (with_reducible refine Ext.trans ?_ (by assumption)) | ((with_reducible refine Ext.set ?_ ?_ _); rotate_left; (focus (first | (simp; done) | omega | (simp; omega))))))))).mono ?_); rintro e w1 ⟨rfl, v', hp1, hf1, hc1⟩; have P1 := Lib.hid hp1; have F1 := Lib.hid hf1; have C1 := Lib.hid hc1; have b1 := (HP.out.drewN _).chg hc1 N1.out; have b2 := (HC.out.drewN _).chg hc1 N2.out; have b3 := (HA.out.drewN _).chg hc1 N3.out; have z0 := b1.cell 0; have z1 := b2.cell 0; have z2 := b2.cell 1; have z3 := b2.cell 2; have y0 := b3.free 0; simp at z0 z1 z2 z3; have B3 := Lib.hid b3; have B1 := Lib.hid b1; have B2 := Lib.hid b2; clear b1 b2 b3 hp1 hf1 hc1) | (go_at_call 37; (with_reducible refine (progressOf_any p b _ size max s' f _ (P1.out.ext (by (repeat (first | with_reducible exact Ext.refl _ | with_reducible assumption | with_reducible apply Ext.alloc | with_reducible apply Ext.drew | with_reducible apply Ext.drewN | (with_reducible refine Ext.trans ?_ (by assumption)) | ((with_reducible refine Ext.set ?_ ?_ _); rotate_left; (focus (first | (simp; done) | omega | (simp; omega))))))))).mono ?_); rintro e w2 ⟨rfl, he2⟩; have E2 := Lib.hid he2; have b1 := B1.out.ext he2; have b2 := B2.out.ext he2; have b3 := B3.out.ext he2; have x0 := b1.cell 0; have x1 := b2.cell 0; have x2 := b2.cell 1; have x3 := b2.cell 2; simp at x0 x1 x2 x3; have A0 := b3.cell 0; have A1 := b3.cell 1; have A2 := b3.cell 2; have A3 := b3.cell 3; have A4 := b3.cell 4; have A5 := b3.cell 5; have A6 := b3.cell 6; have A7 := b3.cell 7; have A8 := b3.cell 8; have A9 := b3.cell 9; have A10 := b3.cell 10; have A11 := b3.cell 11; simp [pgZero] at A0 A1 A2 A3 A4 A5 A6 A7 A8 A9 A10 A11; have f0 := b3.free 0; have f1 := b3.free 1; have f2 := b3.free 2; have f3 := b3.free 3; have f4 := b3.free 4; have f5 := b3.free 5; have f6 := b3.free 6; have f7 := b3.free 7; have f8 := b3.free 8; have f9 := b3.free 9; have f10 := b3.free 10; have f11 := b3.free 11; have C3 := Lib.hid b3; clear b1 b2 b3 he2; simp only [pgAns]))
  have P2 := P1.out.ext E2.out
  have n2 := P2.off C3.out (by decide) (by decide) (by decide)
  have hS := chg12 (F := fun k => k = pa) pa (Chg.refl (fun k => k = pa) w2) (.inl rfl) (.bool f) (.int .u64 s'.mt) (.int .u64 s'.nx) (.int .i64 s'.st) (.int .u64 s'.pend) (.bool s'.act) (.bool s'.pau) (.bool s'.lrn) (.int .i64 s'.L.length) (.bool (fullB size max s'.L)) (.bool s'.paused) (.bool false)
  refine bodyPost_end (results_none rfl _ _ _) rfl ⟨rfl, v', P2.chg hS (fun k hk => by subst hk; exact n2), F1.out, set12 pa C3.out _ _ _ _ _ _ _ _ _ _ _ _, ?_⟩
  have q1 : Chg (fun k => k = pa ∨ PgF p b v k) w w1 := ((Chg.refl _ w).drew).trans (C1.out.mono (fun k _ hk => .inr hk))
  have q2 : Chg (fun k => k = pa ∨ PgF p b v k) w1 w2 := Chg.of_ext E2.out
  exact (q1.trans q2).trans (hS.mono (fun k _ hk => .inl hk))
end Go.Proofs.Ythfdhamencefiaa
