/-
  Single changes: plain and the package's.
-/
import Derived.Test.YtieklcdpnehpnaaRows
import Derived.Test.YtieklcdpnehpnaaBase
import Derived.Test.YtieklcdpnehpnaaSees
set_option linter.unusedVariables false
set_option linter.unusedSimpArgs false
namespace Go.Proofs.Ytieklcdpnehpnaa
open Go.RowKit

structure Sgl where
  kind : Int
  node : Int
def Sgl.cells (x : Sgl) : List Value := [.int .i64 x.kind, .int .u64 x.node]
def Sgl.ok (x : Sgl) : Prop := (-9223372036854775808 ≤ x.kind ∧ x.kind < 9223372036854775808) ∧ (0 ≤ x.node ∧ x.node < 18446744073709551616)
/-- The types of the blocks of a package's single change. -/
def sglS : List TypeId := [113, 111, 23]
/-- The package's single change: the kind as 32 bits. -/
def SglP (w : World) (v : Value) (k n : Int) : Prop :=
  ∃ b p1 p2, v = .pointer (some ⟨b, 0, none⟩) ∧ Blk w b #[.pointer p1, .pointer p2] 113 ∧ NumP 111 .i32 w p1 (wrap32 k) ∧ NumP 23 .u64 w p2 n
theorem SglP.keep {w w' : World} {v : Value} {k n : Int} (h : SglP w v k n) (e : Keep sglS w w') : SglP w' v k n := by
  obtain ⟨b, p1, p2, hv, hb, h1, h2⟩ := h
  exact ⟨b, p1, p2, hv, e.blk hb (by simp [sglS]), h1.keep e (by simp [sglS]), h2.keep e (by simp [sglS])⟩

set_option maxHeartbeats 400000 in
theorem singleTo_any (k n : Int) (w : World) :
    Calls Try.prog 62 #[.agg #[.int .i64 k, .int .u64 n]] w fun e w' => ∃ b, e = .returned (Value.pointer (some ⟨b, 0, none⟩)) ∧ SglP w' (Value.pointer (some ⟨b, 0, none⟩)) k n ∧ Ext w w' := by
  go_enter Try.func62, Try.ntmps62
  go_wp2
  refine bodyPost_ret (results_tmp rfl _ _ _) rfl ?_
  refine ⟨_, rfl, ⟨_, some ⟨w.heap.size + 1, 0, none⟩, some ⟨w.heap.size + 1 + 1, 0, none⟩, rfl, ?_, NumP.set ?_, NumP.set ?_⟩, by (repeat (first | with_reducible exact Ext.refl _ | with_reducible assumption | with_reducible apply Ext.alloc | with_reducible apply Ext.drew | with_reducible apply Ext.drewN | (with_reducible refine Ext.trans ?_ (by assumption)) | ((with_reducible refine Ext.set ?_ ?_ _); rotate_left; (focus (first | (simp; done) | omega | (simp; omega))))))⟩
  all_goals simp [blk_alloc]

theorem infoSgl : (Try.prog.info? 107).map (fun i => (i.zero, i.size, i.bytes)) = some (some (.pointer none), 1, 8) := by kernel_rfl

set_option maxHeartbeats 400000 in
set_option maxRecDepth 100000 in
theorem singlesTo_any (a : Option Addr) (len cap : Nat) (l : List Sgl) (w : World) (hrow : FlatRow w 2 Sgl.cells a len cap l) (hlen : len ≤ 2147483647) :
    Calls Try.prog 50 #[.slice a len cap] w fun e w' => ∃ v xs, e = .returned v ∧ w'.ownsRow w.heap.size 107 1 v len xs ∧ All2 (fun x (y : Sgl) => SglP w' x y.kind y.node) xs l ∧ Ext w w' := by
  obtain ⟨i0, hi, hz0, hz1, hz2⟩ := info_parts infoSgl
  have X := Lib.hid hrow
  clear hrow
  go_enter Try.func50, Try.ntmps50
  go_wp2
  go_loopw [3, 8] (fun v i wr => ∃ (k : Nat) (xs : List Value), k ≤ len ∧ i = .int .i64 k ∧ wr.ownsRow w.heap.size 107 1 v k xs ∧ All2 (fun x (y : Sgl) => SglP wr x y.kind y.node) xs (l.take k) ∧ Ext w wr) (fun _ i _ => len - (intOf i).toNat)
  case atStart => exact ⟨0, [], Nat.zero_le _, rfl, World.ownsRow_nil _ _ _ _, All2.nil _, Ext.refl _⟩
  case round =>
    obtain ⟨k, xs, hk, rfl, hown, hall, hext⟩ := hrel
    by_cases hlt : k < len
    · obtain ⟨y, b, off, hy, rfl, hcell⟩ := X.out.get hlt
      have c0 : wr.cell? ⟨b, off + k * 2, none⟩ = some (.int .i64 y.kind) := hext.cellAt (hcell 0 _ rfl)
      have c1 : wr.cell? ⟨b, off + k * 2 + 1, none⟩ = some (.int .u64 y.node) := hext.cellAt (hcell 1 _ rfl)
      have Z := Lib.hid (And.intro hall hy)
      clear hall hcell hy
      go_wp2_with (first | (go_at_call 62; (with_reducible refine (singleTo_any _ _ _).mono ?_); rintro e w1 ⟨b1, rfl, hs1, he1⟩; have hs1 := Lib.hid hs1; have hown1 := hown.kept (row := none) (World.grownBy_of_ext ((Ext.refl _).alloc _ |>.trans he1)) (by cases hv : u3.ownBlock <;> simp)) | (at_builtin; refine wpList_append_own _ rfl _ _ 93 rfl w.heap.size 107 i0 (.pointer none) 1 8 Try.underlying93 hi hz0 hz1 hz2 rfl (by decide) _ _ _ rfl (hown1.alloc _) ⟨w1.heap.size, 0, none⟩ 1 1 [(Value.pointer (some ⟨b1, 0, none⟩))] rfl rfl (cell_one_new _ _ _) (by simp [Value.oneCell']) (by unfold maxLen; omega) (by omega) (by simp; have := hext.size; have := he1.size; simp at this; omega) ?_; intro v' w2 hown2 hgrow2 _))
      have K2 : Keep sglS w1 w2 := (((Ext.refl w1).alloc _).keep _).trans (Keep.grown (hown1.alloc _) hgrow2 (by simp [sglS]))
      have K1 : Keep sglS wr w2 := (((Ext.refl wr).alloc _ |>.trans he1).keep _).trans K2
      have E2 : Ext w w2 := Ext.grown ((hext.trans ((Ext.refl wr).alloc _ |>.trans he1)).alloc _) hgrow2 (fun j hj => (hown.lt j hj).1)
      go_roundw
      case rel => exact ⟨k + 1, _, by omega, by go_num, hown2, by rw [take_succ_of Z.out.2]; exact (Z.out.1.imp fun x y h => h.keep K1).snoc (hs1.out.keep K2), E2⟩
      case measure => simp [intOf]; omega
    · have hkl : k = len := by omega
      subst hkl
      have Z := Lib.hid hall
      have hl := X.out.length
      clear hall
      go_wp2
      refine bodyPost_ret (results_tmp rfl _ _ _) rfl ?_
      refine ⟨_, xs, rfl, hown, ?_, hext⟩
      have h := Z.out
      rwa [List.take_of_length_le (by omega)] at h
end Go.Proofs.Ytieklcdpnehpnaa
