/-
  A follower's progress.
-/
import Derived.Test.YthfdhamencefiaaRows
import Derived.Test.YthfdhamencefiaaBase
import Derived.Test.YthfdhamencefiaaSees
import Derived.Test.YthfdhamencefiaaInfl
import Derived.Test.YthfdhamencefiaaInflA
import Derived.Test.YthfdhamencefiaaInflF
import Derived.Test.YthfdhamencefiaaInflC
import Derived.Test.YthfdhamencefiaaFlight
import Derived.Test.YthfdhamencefiaaFlightB
import Derived.Deep.RegionHeld3
import Derived.Deep.QuietTactic
import Derived.BigQuiet
import Derived.IntWalk
set_option linter.unusedVariables false
set_option linter.unusedSimpArgs false
namespace Go.Proofs.Ythfdhamencefiaa
open Go.RowKit

structure PgS where
  mt : Int
  nx : Int
  sent : Int
  st : Int
  pend : Int
  act : Bool
  pau : Bool
  lrn : Bool
  L : List (Int × Int)
def inU1 (x : Int) : Prop := 0 ≤ x ∧ x < 18446744073709551616
def PgS.cells (s : PgS) (b : Nat) : Array Value := #[.int .u64 s.mt, .int .u64 s.nx, .int .u64 s.sent, .int .u64 s.st, .int .u64 s.pend, .bool s.act, .bool s.pau, (Value.pointer (some ⟨b, 0, none⟩)), .bool s.lrn]
structure PgP (w : World) (p b : Nat) (v : Value) (size : Nat) (max : Int) (s : PgS) : Prop where
  blk : Blk w p (s.cells b) 84
  inf : InfP w b v size max s.L
  rng : inU1 s.mt ∧ inU1 s.nx ∧ inU1 s.pend
  three : s.st = 0 ∨ s.st = 1 ∨ s.st = 2
def PgS.paused (s : PgS) : Bool := if s.st = 2 then true else s.pau
theorem PgP.ext {w w' : World} {p b : Nat} {v : Value} {size : Nat} {max : Int} {s : PgS} (h : PgP w p b v size max s) (e : Ext w w') : PgP w' p b v size max s := ⟨h.blk.ext e, h.inf.ext e, h.rng, h.three⟩
/-- What a call on it may turn. -/
def PgF (p b : Nat) (v : Value) (k : Nat) : Prop := k = p ∨ InfF b v k

set_option maxHeartbeats 1000000 in
theorem isPaused_any (p b : Nat) (v : Value) (size : Nat) (max : Int) (s : PgS) (w : World) (h : PgP w p b v size max s) :
    Calls Try.prog 58 #[(Value.pointer (some ⟨p, 0, none⟩))] w fun r w' => r = .returned (.bool s.paused) ∧ w' = w := by
  have c3 := h.blk.cell 3
  have c6 := h.blk.cell 6
  simp [PgS.cells] at c3 c6
  have h3 := h.three
  clear h
  rcases h3 with e | e | e
  · rw [e] at c3
    have HP := Lib.hid (show s.paused = s.pau by unfold PgS.paused; rw [e]; rfl)
    clear e
    go_enter Try.func58, Try.ntmps58
    go_wp2
    refine bodyPost_ret (results_tmp rfl _ _ _) rfl ?_
    exact ⟨by rw [HP.out]; rfl, rfl⟩
  · rw [e] at c3
    have HP := Lib.hid (show s.paused = s.pau by unfold PgS.paused; rw [e]; rfl)
    clear e
    go_enter Try.func58, Try.ntmps58
    go_wp2
    refine bodyPost_ret (results_tmp rfl _ _ _) rfl ?_
    exact ⟨by rw [HP.out]; rfl, rfl⟩
  · rw [e] at c3
    have HP := Lib.hid (show s.paused = true by unfold PgS.paused; rw [e]; rfl)
    clear e
    go_enter Try.func58, Try.ntmps58
    go_wp2
    refine bodyPost_ret (results_tmp rfl _ _ _) rfl ?_
    exact ⟨by rw [HP.out]; rfl, rfl⟩

/-- What is told of it. -/
def pgAns (size : Nat) (max : Int) (f : Bool) (s : PgS) : Array Value := #[.bool f, .int .u64 s.mt, .int .u64 s.nx, .int .i64 s.st, .int .u64 s.pend, .bool s.act, .bool s.pau, .bool s.lrn, .int .i64 s.L.length, .bool (fullB size max s.L), .bool s.paused, .bool false]

theorem set12 {W : World} (k : Nat) {z0 z1 z2 z3 z4 z5 z6 z7 z8 z9 z10 z11 : Value} {T : TypeId} (h : Blk W k #[z0, z1, z2, z3, z4, z5, z6, z7, z8, z9, z10, z11] T) (a0 a1 a2 a3 a4 a5 a6 a7 a8 a9 a10 a11 : Value) : Blk ((((((((((((W.setCell ⟨k, 0, none⟩ a0).setCell ⟨k, 1, none⟩ a1).setCell ⟨k, 2, none⟩ a2).setCell ⟨k, 3, none⟩ a3).setCell ⟨k, 4, none⟩ a4).setCell ⟨k, 5, none⟩ a5).setCell ⟨k, 6, none⟩ a6).setCell ⟨k, 7, none⟩ a7).setCell ⟨k, 8, none⟩ a8).setCell ⟨k, 9, none⟩ a9).setCell ⟨k, 10, none⟩ a10).setCell ⟨k, 11, none⟩ a11) k #[a0, a1, a2, a3, a4, a5, a6, a7, a8, a9, a10, a11] T := by
  have h0 : Blk (W.setCell ⟨k, 0, none⟩ a0) k #[a0, z1, z2, z3, z4, z5, z6, z7, z8, z9, z10, z11] T := h.set 0 a0
  clear h
  have h1 : Blk ((W.setCell ⟨k, 0, none⟩ a0).setCell ⟨k, 1, none⟩ a1) k #[a0, a1, z2, z3, z4, z5, z6, z7, z8, z9, z10, z11] T := h0.set 1 a1
  clear h0
  have h2 : Blk (((W.setCell ⟨k, 0, none⟩ a0).setCell ⟨k, 1, none⟩ a1).setCell ⟨k, 2, none⟩ a2) k #[a0, a1, a2, z3, z4, z5, z6, z7, z8, z9, z10, z11] T := h1.set 2 a2
  clear h1
  have h3 : Blk ((((W.setCell ⟨k, 0, none⟩ a0).setCell ⟨k, 1, none⟩ a1).setCell ⟨k, 2, none⟩ a2).setCell ⟨k, 3, none⟩ a3) k #[a0, a1, a2, a3, z4, z5, z6, z7, z8, z9, z10, z11] T := h2.set 3 a3
  clear h2
  have h4 : Blk (((((W.setCell ⟨k, 0, none⟩ a0).setCell ⟨k, 1, none⟩ a1).setCell ⟨k, 2, none⟩ a2).setCell ⟨k, 3, none⟩ a3).setCell ⟨k, 4, none⟩ a4) k #[a0, a1, a2, a3, a4, z5, z6, z7, z8, z9, z10, z11] T := h3.set 4 a4
  clear h3
  have h5 : Blk ((((((W.setCell ⟨k, 0, none⟩ a0).setCell ⟨k, 1, none⟩ a1).setCell ⟨k, 2, none⟩ a2).setCell ⟨k, 3, none⟩ a3).setCell ⟨k, 4, none⟩ a4).setCell ⟨k, 5, none⟩ a5) k #[a0, a1, a2, a3, a4, a5, z6, z7, z8, z9, z10, z11] T := h4.set 5 a5
  clear h4
  have h6 : Blk (((((((W.setCell ⟨k, 0, none⟩ a0).setCell ⟨k, 1, none⟩ a1).setCell ⟨k, 2, none⟩ a2).setCell ⟨k, 3, none⟩ a3).setCell ⟨k, 4, none⟩ a4).setCell ⟨k, 5, none⟩ a5).setCell ⟨k, 6, none⟩ a6) k #[a0, a1, a2, a3, a4, a5, a6, z7, z8, z9, z10, z11] T := h5.set 6 a6
  clear h5
  have h7 : Blk ((((((((W.setCell ⟨k, 0, none⟩ a0).setCell ⟨k, 1, none⟩ a1).setCell ⟨k, 2, none⟩ a2).setCell ⟨k, 3, none⟩ a3).setCell ⟨k, 4, none⟩ a4).setCell ⟨k, 5, none⟩ a5).setCell ⟨k, 6, none⟩ a6).setCell ⟨k, 7, none⟩ a7) k #[a0, a1, a2, a3, a4, a5, a6, a7, z8, z9, z10, z11] T := h6.set 7 a7
  clear h6
  have h8 : Blk (((((((((W.setCell ⟨k, 0, none⟩ a0).setCell ⟨k, 1, none⟩ a1).setCell ⟨k, 2, none⟩ a2).setCell ⟨k, 3, none⟩ a3).setCell ⟨k, 4, none⟩ a4).setCell ⟨k, 5, none⟩ a5).setCell ⟨k, 6, none⟩ a6).setCell ⟨k, 7, none⟩ a7).setCell ⟨k, 8, none⟩ a8) k #[a0, a1, a2, a3, a4, a5, a6, a7, a8, z9, z10, z11] T := h7.set 8 a8
  clear h7
  have h9 : Blk ((((((((((W.setCell ⟨k, 0, none⟩ a0).setCell ⟨k, 1, none⟩ a1).setCell ⟨k, 2, none⟩ a2).setCell ⟨k, 3, none⟩ a3).setCell ⟨k, 4, none⟩ a4).setCell ⟨k, 5, none⟩ a5).setCell ⟨k, 6, none⟩ a6).setCell ⟨k, 7, none⟩ a7).setCell ⟨k, 8, none⟩ a8).setCell ⟨k, 9, none⟩ a9) k #[a0, a1, a2, a3, a4, a5, a6, a7, a8, a9, z10, z11] T := h8.set 9 a9
  clear h8
  have h10 : Blk (((((((((((W.setCell ⟨k, 0, none⟩ a0).setCell ⟨k, 1, none⟩ a1).setCell ⟨k, 2, none⟩ a2).setCell ⟨k, 3, none⟩ a3).setCell ⟨k, 4, none⟩ a4).setCell ⟨k, 5, none⟩ a5).setCell ⟨k, 6, none⟩ a6).setCell ⟨k, 7, none⟩ a7).setCell ⟨k, 8, none⟩ a8).setCell ⟨k, 9, none⟩ a9).setCell ⟨k, 10, none⟩ a10) k #[a0, a1, a2, a3, a4, a5, a6, a7, a8, a9, a10, z11] T := h9.set 10 a10
  clear h9
  have h11 : Blk ((((((((((((W.setCell ⟨k, 0, none⟩ a0).setCell ⟨k, 1, none⟩ a1).setCell ⟨k, 2, none⟩ a2).setCell ⟨k, 3, none⟩ a3).setCell ⟨k, 4, none⟩ a4).setCell ⟨k, 5, none⟩ a5).setCell ⟨k, 6, none⟩ a6).setCell ⟨k, 7, none⟩ a7).setCell ⟨k, 8, none⟩ a8).setCell ⟨k, 9, none⟩ a9).setCell ⟨k, 10, none⟩ a10).setCell ⟨k, 11, none⟩ a11) k #[a0, a1, a2, a3, a4, a5, a6, a7, a8, a9, a10, a11] T := h10.set 11 a11
  clear h10
  exact h11
theorem ext12 {w W : World} (k : Nat) (h : Ext w W) (hk : w.heap.size ≤ k) (a0 a1 a2 a3 a4 a5 a6 a7 a8 a9 a10 a11 : Value) : Ext w ((((((((((((W.setCell ⟨k, 0, none⟩ a0).setCell ⟨k, 1, none⟩ a1).setCell ⟨k, 2, none⟩ a2).setCell ⟨k, 3, none⟩ a3).setCell ⟨k, 4, none⟩ a4).setCell ⟨k, 5, none⟩ a5).setCell ⟨k, 6, none⟩ a6).setCell ⟨k, 7, none⟩ a7).setCell ⟨k, 8, none⟩ a8).setCell ⟨k, 9, none⟩ a9).setCell ⟨k, 10, none⟩ a10).setCell ⟨k, 11, none⟩ a11) := (Ext.set (p := ⟨k, 11, none⟩) (Ext.set (p := ⟨k, 10, none⟩) (Ext.set (p := ⟨k, 9, none⟩) (Ext.set (p := ⟨k, 8, none⟩) (Ext.set (p := ⟨k, 7, none⟩) (Ext.set (p := ⟨k, 6, none⟩) (Ext.set (p := ⟨k, 5, none⟩) (Ext.set (p := ⟨k, 4, none⟩) (Ext.set (p := ⟨k, 3, none⟩) (Ext.set (p := ⟨k, 2, none⟩) (Ext.set (p := ⟨k, 1, none⟩) (Ext.set (p := ⟨k, 0, none⟩) h hk a0) hk a1) hk a2) hk a3) hk a4) hk a5) hk a6) hk a7) hk a8) hk a9) hk a10) hk a11)

set_option maxRecDepth 100000 in
set_option maxHeartbeats 4000000 in
theorem progressOf_any (p b : Nat) (v : Value) (size : Nat) (max : Int) (s : PgS) (f : Bool) (w : World) (h : PgP w p b v size max s) :
    Calls Try.prog 37 #[(Value.pointer (some ⟨p, 0, none⟩)), .bool f] w fun r w' => r = .returned (.agg (pgAns size max f s)) ∧ Ext w w' := by
  have hb := h.blk
  have c0 := hb.cell 0
  have c1 := hb.cell 1
  have c2 := hb.cell 2
  have c3 := hb.cell 3
  have c4 := hb.cell 4
  have c5 := hb.cell 5
  have c6 := hb.cell 6
  have c7 := hb.cell 7
  have c8 := hb.cell 8
  simp [PgS.cells] at c0 c1 c2 c3 c4 c5 c6 c7 c8
  have hlt := hb.lt
  have hn1 : ¬ p = w.heap.size := by omega
  have hn2 : ¬ w.heap.size = p := by omega
  have hst : IntKind.i64.wrap s.st = s.st := by rw [IntKind.wrap_i64]; rcases h.three with e | e | e <;> rw [e] <;> rfl
  have H := Lib.hid h
  clear h hb
  go_enter Try.func37, Try.ntmps37
  go_wp2_with fail
  go_region_held3 (fun w' => w'.cell? ⟨p, 0, none⟩ = some (.int .u64 s.mt) ∧ w'.cell? ⟨p, 1, none⟩ = some (.int .u64 s.nx) ∧ w'.cell? ⟨p, 3, none⟩ = some (.int .u64 s.st) ∧ w'.cell? ⟨p, 4, none⟩ = some (.int .u64 s.pend) ∧ w'.cell? ⟨p, 5, none⟩ = some (.bool s.act) ∧ w'.cell? ⟨p, 6, none⟩ = some (.bool s.pau) ∧ w'.cell? ⟨p, 7, none⟩ = some (Value.pointer (some ⟨b, 0, none⟩)) ∧ w'.cell? ⟨p, 8, none⟩ = some (.bool s.lrn)) (go_keep)
    (first | (go_at_call 53; refine (count_any b v size max s.L _ (H.out.inf.ext (by (repeat (first | with_reducible exact Ext.refl _ | with_reducible assumption | with_reducible apply Ext.alloc | with_reducible apply Ext.drew | with_reducible apply Ext.drewN | (with_reducible refine Ext.trans ?_ (by assumption)) | ((with_reducible refine Ext.set ?_ ?_ _); rotate_left; (focus (first | (simp; done) | omega | (simp; omega))))))))).mono ?_; rintro e w2 ⟨rfl, rfl⟩) | (go_at_call 54; refine (full_any b v size max s.L _ (H.out.inf.ext (by (repeat (first | with_reducible exact Ext.refl _ | with_reducible assumption | with_reducible apply Ext.alloc | with_reducible apply Ext.drew | with_reducible apply Ext.drewN | (with_reducible refine Ext.trans ?_ (by assumption)) | ((with_reducible refine Ext.set ?_ ?_ _); rotate_left; (focus (first | (simp; done) | omega | (simp; omega))))))))).mono ?_; rintro e w3 ⟨rfl, n3, rfl⟩) | (go_at_call 58; refine (isPaused_any p b v size max s _ (H.out.ext (by (repeat (first | with_reducible exact Ext.refl _ | with_reducible assumption | with_reducible apply Ext.alloc | with_reducible apply Ext.drew | with_reducible apply Ext.drewN | (with_reducible refine Ext.trans ?_ (by assumption)) | ((with_reducible refine Ext.set ?_ ?_ _); rotate_left; (focus (first | (simp; done) | omega | (simp; omega))))))))).mono ?_; rintro e w4 ⟨rfl, rfl⟩))
  go_wp2
  refine bodyPost_ret (results_cell_row rfl _ _ _ _ _ _ _ rfl (set12 (w.heap.size) (((Blk.newAt rfl #[.bool false, .int .u64 0, .int .u64 0, .int .i64 0, .int .u64 0, .bool false, .bool false, .bool false, .int .i64 0, .bool false, .bool false, .bool false] 62).drewN _)) _ _ _ _ _ _ _ _ _ _ _ _) Try.underlying62 rfl (by kernel_rfl)) rfl ⟨rfl, ?_⟩
  exact ext12 w.heap.size (((Ext.refl w).alloc _).drewN _) (Nat.le_refl _) _ _ _ _ _ _ _ _ _ _ _ _
end Go.Proofs.Ythfdhamencefiaa
