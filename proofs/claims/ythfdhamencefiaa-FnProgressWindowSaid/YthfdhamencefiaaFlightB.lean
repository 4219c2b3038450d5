/-
  A call on an Inflights, guarded.
-/
import Derived.Test.YthfdhamencefiaaRows
import Derived.Test.YthfdhamencefiaaBase
import Derived.Test.YthfdhamencefiaaSees
import Derived.Test.YthfdhamencefiaaGuard
import Derived.Test.YthfdhamencefiaaInfl
import Derived.Test.YthfdhamencefiaaInflA
import Derived.Test.YthfdhamencefiaaInflF
import Derived.Test.YthfdhamencefiaaInflC
import Derived.Test.YthfdhamencefiaaFlight
set_option linter.unusedVariables false
set_option linter.unusedSimpArgs false
namespace Go.Proofs.Ythfdhamencefiaa
open Go.RowKit

/-- What a call answers. -/
def flAns (size : Nat) (max : Int) : Option (List (Int × Int)) → Array Value
  | none => #[.int .i64 0, .bool false, .bool true]
  | some M => #[.int .i64 M.length, .bool (fullB size max M), .bool false]

theorem FreshV.chg {w w1 : World} {v v' : Value} (h : FreshV w1 v v') (hs : w.heap.size ≤ w1.heap.size) : FreshV w v v' := fun k hk => (h k hk).imp id (fun h => Nat.le_trans hs h)
theorem FreshV.refl (w : World) (v : Value) : FreshV w v v := fun _ h => .inl h

set_option maxHeartbeats 1000000 in
theorem flight_any (b : Nat) (v : Value) (size : Nat) (max : Int) (L : List (Int × Int)) (k A B : Int) (w : World) (h : InfP w b v size max L) (hA : 0 ≤ A ∧ A < 18446744073709551616) (hB : 0 ≤ B ∧ B < 18446744073709551616) :
    Calls Try.prog 28 #[(Value.pointer (some ⟨b, 0, none⟩)), .agg #[.int .i64 k, .int .u64 A, .int .u64 B]] w fun r w' =>
      ∃ v', r = .returned (.agg (flAns size max (flStep size max L ⟨k, A, B⟩))) ∧ InfP w' b v' size max ((flStep size max L ⟨k, A, B⟩).getD L) ∧ FreshV w v v' ∧ Chg (InfF b v) w w' := by
  have hmf : ∀ (fn : Fn) (first cap : Array Value) (w : World), (Instr.makeFunc fn first cap).run Try.prog w = .ok (.func fn first cap) w := fun _ _ _ _ => rfl
  go_enter Try.func28, Try.ntmps28
  go_wp2_with fail
  refine (guarded_any 50 _ _ (fun t w1 => Blk w1 (w.heap.size + 2) #[.int .i64 0, .bool false, .bool false] 35 ∧ ∃ v', FreshV w v v' ∧ Chg (InfF b v) w w1 ∧ InfP w1 b v' size max ((flStep size max L ⟨k, A, B⟩).getD L) ∧
      ((t = true ∧ flStep size max L ⟨k, A, B⟩ = none) ∨ (t = false ∧ ∃ M, flStep size max L ⟨k, A, B⟩ = some M ∧ Blk w1 (w.heap.size + 3) #[.int .i64 M.length, .bool (fullB size max M), .bool false] 35))) (fun W => by simp [go_sem]) ?_).mono ?_
  · have hE : Ext w ((((((w.alloc (.cells #[(Value.pointer (some ⟨b, 0, none⟩))] 72)).alloc (.cells #[.int .i64 k, .int .u64 A, .int .u64 B] 31)).alloc (.cells #[.int .i64 0, .bool false, .bool false] 35)).alloc (.cells #[.int .i64 0, .bool false, .bool false] 35)).alloc (.cells #[.bool false] 4))) := by (repeat (first | with_reducible exact Ext.refl _ | with_reducible assumption | with_reducible apply Ext.alloc | with_reducible apply Ext.drew | with_reducible apply Ext.drewN | (with_reducible refine Ext.trans ?_ (by assumption)) | ((with_reducible refine Ext.set ?_ ?_ _); rotate_left; (focus (first | (simp; done) | omega | (simp; omega))))))
    obtain ⟨W0, hW0⟩ : ∃ W0, W0 = ((((((w.alloc (.cells #[(Value.pointer (some ⟨b, 0, none⟩))] 72)).alloc (.cells #[.int .i64 k, .int .u64 A, .int .u64 B] 31)).alloc (.cells #[.int .i64 0, .bool false, .bool false] 35)).alloc (.cells #[.int .i64 0, .bool false, .bool false] 35)).alloc (.cells #[.bool false] 4))) := ⟨_, rfl⟩
    have b0 : Blk W0 w.heap.size #[(Value.pointer (some ⟨b, 0, none⟩))] 72 := by subst hW0; simp [blk_alloc]
    have b1 : Blk W0 (w.heap.size + 1) #[.int .i64 k, .int .u64 A, .int .u64 B] 31 := by subst hW0; simp [blk_alloc]
    have b2 : Blk W0 (w.heap.size + 2) #[.int .i64 0, .bool false, .bool false] 35 := by subst hW0; simp [blk_alloc]
    have b3 : Blk W0 (w.heap.size + 3) #[.int .i64 0, .bool false, .bool false] 35 := by subst hW0; simp [blk_alloc]
    have b4 : Blk W0 (w.heap.size + 4) #[.bool false] 4 := by subst hW0; simp [blk_alloc]
    rw [← hW0] at hE ⊢
    refine (flightClosure (w.heap.size + 1) w.heap.size (w.heap.size + 3) b v size max L ⟨k, A, B⟩ W0 (h.ext hE) hA hB b1 b0 b3).mono ?_
    rintro e w1 (⟨hs, ⟨u, pv, rfl⟩, hx⟩ | ⟨M, v', hs, rfl, hi, hf, ha, hc⟩)
    · have hX : Ext w w1 := hE.trans hx
      have b4' := b4.ext hx
      have hT := hX.set (p := ⟨w.heap.size + 4, 0, none⟩) (by simp) (.bool true)
      simp only [hs]
      refine ⟨by simpa using b4', .inr ⟨u, pv, rfl, (b2.ext hx).setOther (by simp) _, v, FreshV.refl _ _, Chg.of_ext (by simpa using hT), h.ext (by simpa using hT), .inl ⟨rfl, trivial⟩⟩⟩
    · have n4 := (h.ext hE).notF b4 (by decide) (by decide)
      have n2 := (h.ext hE).notF b2 (by decide) (by decide)
      simp only [hs]
      refine ⟨by simpa using b4.chg hc (by simp [n4]), .inl ⟨_, rfl, b2.chg hc (by simp [n2]), v', hf.chg hE.size, ?_, hi, .inr ⟨rfl, M, rfl, ha⟩⟩⟩
      have e1 : Chg (fun k => k = w.heap.size + 3 ∨ InfF b v k) w w1 := (Chg.of_ext hE).trans hc
      exact e1.mono (fun k hk hF => by rcases hF with rfl | hF; · omega
                                       · exact hF)
  · rintro e w1 ⟨t, rfl, hb2, v', hf, hc, hi, ⟨rfl, hs⟩ | ⟨rfl, M, hs, ha⟩⟩
    · have d0 := hb2.cell 0
      have d1 := hb2.cell 1
      have d2 := hb2.cell 2
      have f0 := hb2.free 0
      have f1 := hb2.free 1
      have f2 := hb2.free 2
      simp at d0 d1 d2
      go_wp2_with fail
      have hB : Blk ((((w1.setCell ⟨w.heap.size + 1 + 1, 0, none⟩ (.int .i64 0)).setCell ⟨w.heap.size + 1 + 1, 1, none⟩ (.bool false)).setCell ⟨w.heap.size + 1 + 1, 2, none⟩ (.bool true))) (w.heap.size + 1 + 1) #[(.int .i64 0), (.bool false), (.bool true)] 35 := ((hb2.set 0 (.int .i64 0)).set 1 (.bool false)).set 2 (.bool true)
      have hS : Chg (fun k => k = w.heap.size + 1 + 1) w1 ((((w1.setCell ⟨w.heap.size + 1 + 1, 0, none⟩ (.int .i64 0)).setCell ⟨w.heap.size + 1 + 1, 1, none⟩ (.bool false)).setCell ⟨w.heap.size + 1 + 1, 2, none⟩ (.bool true))) :=
        (((Chg.refl (fun k => k = w.heap.size + 1 + 1) w1).set (p := ⟨w.heap.size + 1 + 1, 0, none⟩) (.inl rfl) (.int .i64 0)).set (p := ⟨w.heap.size + 1 + 1, 1, none⟩) (.inl rfl) (.bool false)).set (p := ⟨w.heap.size + 1 + 1, 2, none⟩) (.inl rfl) (.bool true)
      have hn : ¬ InfF b v' (w.heap.size + 1 + 1) := hi.notF hb2 (by decide) (by decide)
      refine bodyPost_ret (results_cell_row rfl _ _ _ _ _ _ _ rfl hB Try.underlying35 rfl (by kernel_rfl)) rfl ⟨v', by simp [hs, flAns], hi.chg hS (fun k hk => by subst hk; exact hn), hf, ?_⟩
      have e1 := (hc.mono (G := fun k => k = w.heap.size + 1 + 1 ∨ InfF b v k) (fun k hk h => .inr h)).trans (hS.mono (fun k _ h => .inl h))
      exact e1.mono (fun k hk hF => by rcases hF with rfl | hF; · omega
                                       · exact hF)
    · have d0 := hb2.cell 0
      have d1 := hb2.cell 1
      have d2 := hb2.cell 2
      have a0 := ha.cell 0
      have a1 := ha.cell 1
      have a2 := ha.cell 2
      have f0 := hb2.free 0
      have f1 := hb2.free 1
      have f2 := hb2.free 2
      simp at d0 d1 d2 a0 a1 a2
      go_wp2_with fail
      have hB : Blk ((((w1.setCell ⟨w.heap.size + 1 + 1, 0, none⟩ (.int .i64 M.length)).setCell ⟨w.heap.size + 1 + 1, 1, none⟩ (.bool (fullB size max M))).setCell ⟨w.heap.size + 1 + 1, 2, none⟩ (.bool false))) (w.heap.size + 1 + 1) #[(.int .i64 M.length), (.bool (fullB size max M)), (.bool false)] 35 := ((hb2.set 0 (.int .i64 M.length)).set 1 (.bool (fullB size max M))).set 2 (.bool false)
      have hS : Chg (fun k => k = w.heap.size + 1 + 1) w1 ((((w1.setCell ⟨w.heap.size + 1 + 1, 0, none⟩ (.int .i64 M.length)).setCell ⟨w.heap.size + 1 + 1, 1, none⟩ (.bool (fullB size max M))).setCell ⟨w.heap.size + 1 + 1, 2, none⟩ (.bool false))) :=
        (((Chg.refl (fun k => k = w.heap.size + 1 + 1) w1).set (p := ⟨w.heap.size + 1 + 1, 0, none⟩) (.inl rfl) (.int .i64 M.length)).set (p := ⟨w.heap.size + 1 + 1, 1, none⟩) (.inl rfl) (.bool (fullB size max M))).set (p := ⟨w.heap.size + 1 + 1, 2, none⟩) (.inl rfl) (.bool false)
      have hn : ¬ InfF b v' (w.heap.size + 1 + 1) := hi.notF hb2 (by decide) (by decide)
      refine bodyPost_ret (results_cell_row rfl _ _ _ _ _ _ _ rfl hB Try.underlying35 rfl (by kernel_rfl)) rfl ⟨v', by simp [hs, flAns], hi.chg hS (fun k hk => by subst hk; exact hn), hf, ?_⟩
      have e1 := (hc.mono (G := fun k => k = w.heap.size + 1 + 1 ∨ InfF b v k) (fun k hk h => .inr h)).trans (hS.mono (fun k _ h => .inl h))
      exact e1.mono (fun k hk hF => by rcases hF with rfl | hF; · omega
                                       · exact hF)
end Go.Proofs.Ythfdhamencefiaa
