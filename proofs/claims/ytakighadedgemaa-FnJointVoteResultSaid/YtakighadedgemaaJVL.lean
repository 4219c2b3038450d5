/-
  FnJointVoteResult's own walk.
-/
import Derived.Test.YtakighadedgemaaRows
import Derived.Test.YtakighadedgemaaBase
import Derived.Test.YtakighadedgemaaSees
import Derived.Test.YtakighadedgemaaU64s
import Derived.Test.YtakighadedgemaaVoteP
import Derived.Test.YtakighadedgemaaVoteM
import Derived.Test.YtakighadedgemaaVoteI
import Derived.Test.YtakighadedgemaaVoteS
import Derived.Test.YtakighadedgemaaFew
import Derived.Deep.RegionWith
set_option linter.unusedVariables false
set_option linter.unusedSimpArgs false
namespace Go.Proofs.Ytakighadedgemaa
open Go.RowKit

theorem jointN_comm (a b : Int) : jointN a b = jointN b a := by
  unfold jointN
  by_cases h : a = b
  · subst h; rfl
  · have h' : ¬ b = a := fun e => h e.symm
    by_cases h2 : a = 2 ∨ b = 2
    · have h3 : b = 2 ∨ a = 2 := h2.symm
      simp only [h, h', if_false, if_pos h2, if_pos h3]
    · have h3 : ¬ (b = 2 ∨ a = 2) := fun e => h2 e.symm
      simp only [h, h', if_false, if_neg h2, if_neg h3]
theorem jointN_rng {a b : Int} (ha : a = 1 ∨ a = 2 ∨ a = 3) (hb : b = 1 ∨ b = 2 ∨ b = 3) : jointN a b = 1 ∨ jointN a b = 2 ∨ jointN a b = 3 := by
  rcases ha with rfl | rfl | rfl <;> rcases hb with rfl | rfl | rfl <;> simp [jointN]

set_option maxHeartbeats 1000000 in
theorem specJoint (a1 : Option Addr) (n1 c1 : Nat) (ids1 : List Int) (a3 : Option Addr) (n3 c3 : Nat) (ids2 : List Int) (a2 : Option Addr) (n2 c2 : Nat) (l : List (Int × Bool)) (w : World) (h1 : FlatRow w 1 u64C a1 n1 c1 ids1) (h3 : FlatRow w 1 u64C a3 n3 c3 ids2) (h2 : FlatRow w 2 Bal.cells a2 n2 c2 l) (k1 : inU ids1) (k3 : inU ids2)
    (e1 : n1 ≤ 2147483647) (e3 : n3 ≤ 2147483647) (e2 : n2 ≤ 2147483647) :
    Calls Try.prog 11 #[.slice a1 n1 c1, .slice a3 n3 c3, .slice a2 n2 c2] w fun r w' => r = .returned (.int .i64 (jointN (majR ids1 l) (majR ids2 l))) ∧ Ext w w' := by
  have H1 := Lib.hid h1
  have H2 := Lib.hid h2
  have H3 := Lib.hid h3
  have K1 := Lib.hid k1
  have K3 := Lib.hid k3
  have R1 := majR_rng ids1 l
  have R2 := majR_rng ids2 l
  obtain ⟨r1, hr1⟩ : ∃ r, r = majR ids1 l := ⟨_, rfl⟩
  obtain ⟨r2, hr2⟩ : ∃ r, r = majR ids2 l := ⟨_, rfl⟩
  rw [← hr1, ← hr2]
  rw [← hr1] at R1
  rw [← hr2] at R2
  have Q1 := Lib.hid hr1
  have Q2 := Lib.hid hr2
  clear h1 h2 h3 k1 k3 hr1 hr2
  rcases R1 with rfl | rfl | rfl <;> rcases R2 with rfl | rfl | rfl
  all_goals
    go_enter Try.func11, Try.ntmps11
    go_wp2_with (first | (go_at_call_of 28 (Value.slice a1 n1 c1); refine (specVoteR a1 n1 c1 ids1 a2 n2 c2 l _ H1.out H2.out K1.out e1 e2).mono ?_; rintro e w1 ⟨rfl, he1⟩; rw [← Q1.out]) | (go_at_call_of 28 (Value.slice a3 n3 c3); refine (specVoteR a3 n3 c3 ids2 a2 n2 c2 l _ (H3.out.ext he1) (H2.out.ext he1) K3.out e3 e2).mono ?_; rintro e w2 ⟨rfl, he2⟩; rw [← Q2.out]) | fail)
    refine bodyPost_ret (results_tmp rfl _ _ _) rfl ?_
    exact ⟨by simp [jointN], he1.trans he2⟩

set_option maxRecDepth 100000 in
set_option maxHeartbeats 2000000 in
theorem fnJointVoteW (v0 : Value) (l0 : List Int) {w : World} (h0 : U64V w v0 l0) (v1 : Value) (l1 : List Int) (h1 : U64V w v1 l1) (v2 : Value) (l2 : List (Int × Bool)) (h2 : BalV w v2 l2) :
    Calls Try.prog 3 #[v0, v1, v2] w fun e w' => e = .returned (.bool true) ∧ Ext w w' := by
  obtain ⟨a0, n0, c0, rfl, hr0, hk0⟩ := h0
  obtain ⟨a1, n1, c1, rfl, hr1, hk1⟩ := h1
  obtain ⟨a2, n2, c2, rfl, hr2, hk2⟩ := h2
  have X0 := Lib.hid hr0
  have X1 := Lib.hid hr1
  have X2 := Lib.hid hr2
  have K0 := Lib.hid (show inU l0 from hk0)
  have K1 := Lib.hid (show inU l1 from hk1)
  have K2 := Lib.hid hk2
  clear hr0 hr1 hr2 hk0 hk1 hk2
  by_cases g : (2147483647 : Int) < n0 ∨ (2147483647 : Int) < n1 ∨ (2147483647 : Int) < n2
  · by_cases g0 : (2147483647 : Int) < n0
    · go_enter Try.func3, Try.ntmps3
      go_wp2
      go_ret
      exact ⟨rfl, by (repeat (first | with_reducible exact Ext.refl _ | with_reducible assumption | with_reducible apply Ext.alloc | with_reducible apply Ext.drew | with_reducible apply Ext.drewN | (with_reducible refine Ext.trans ?_ (by assumption)) | ((with_reducible refine Ext.set ?_ ?_ _); rotate_left; (focus (first | (simp; done) | omega | (simp; omega))))))⟩
    · by_cases g1 : (2147483647 : Int) < n1
      · go_enter Try.func3, Try.ntmps3
        go_wp2
        go_ret
        exact ⟨rfl, by (repeat (first | with_reducible exact Ext.refl _ | with_reducible assumption | with_reducible apply Ext.alloc | with_reducible apply Ext.drew | with_reducible apply Ext.drewN | (with_reducible refine Ext.trans ?_ (by assumption)) | ((with_reducible refine Ext.set ?_ ?_ _); rotate_left; (focus (first | (simp; done) | omega | (simp; omega))))))⟩
      · have g2 : (2147483647 : Int) < n2 := by omega
        clear g
        go_enter Try.func3, Try.ntmps3
        go_wp2
        go_ret
        exact ⟨rfl, by (repeat (first | with_reducible exact Ext.refl _ | with_reducible assumption | with_reducible apply Ext.alloc | with_reducible apply Ext.drew | with_reducible apply Ext.drewN | (with_reducible refine Ext.trans ?_ (by assumption)) | ((with_reducible refine Ext.set ?_ ?_ _); rotate_left; (focus (first | (simp; done) | omega | (simp; omega))))))⟩
  · have g0 : ¬ (2147483647 : Int) < n0 := by omega
    have g1 : ¬ (2147483647 : Int) < n1 := by omega
    have g2 : ¬ (2147483647 : Int) < n2 := by omega
    have e0 : n0 ≤ 2147483647 := by omega
    have e1 : n1 ≤ 2147483647 := by omega
    have e2 : n2 ≤ 2147483647 := by omega
    clear g
    by_cases f : n0 ≤ 40 ∧ n1 ≤ 40
    · have F := Lib.hid (show ([(a0, n0, c0), (a1, n1, c1)] : List (Option Addr × Nat × Nat)).all fewB = true by simp [fewB, f.1, f.2])
      clear f
      by_cases f2 : (40 : Int) < n2
      · go_enter Try.func3, Try.ntmps3
        go_wp2_with (first | (go_at_call 9; refine (few_any (some ⟨w.heap.size, 0, none⟩) 2 2 [(a0, n0, c0), (a1, n1, c1)] _ (slRow_new w _ _ 2 rfl rfl (by decide)) (by omega)).mono ?_; rintro e w1 ⟨rfl, he1⟩; rw [F.out]) | fail)
        go_ret
        exact ⟨rfl, by (repeat (first | with_reducible exact Ext.refl _ | with_reducible assumption | with_reducible apply Ext.alloc | with_reducible apply Ext.drew | with_reducible apply Ext.drewN | (with_reducible refine Ext.trans ?_ (by assumption)) | ((with_reducible refine Ext.set ?_ ?_ _); rotate_left; (focus (first | (simp; done) | omega | (simp; omega))))))⟩
      · obtain ⟨r, hr⟩ : ∃ r, r = jointN (majR l0 l2) (majR l1 l2) := ⟨_, rfl⟩
        have HR := Lib.hid hr
        have HC := Lib.hid (jointN_comm (majR l1 l2) (majR l0 l2))
        clear hr
        go_enter Try.func3, Try.ntmps3
        go_wp2_with (first | (go_at_call 9; refine (few_any (some ⟨w.heap.size, 0, none⟩) 2 2 [(a0, n0, c0), (a1, n1, c1)] _ (slRow_new w _ _ 2 rfl rfl (by decide)) (by omega)).mono ?_; rintro e w1 ⟨rfl, he1⟩; rw [F.out]; have E1 : Ext w w1 := ((Ext.refl w).alloc _).trans he1) | (go_at_call 11; refine (specJoint a0 n0 c0 l0 a1 n1 c1 l1 a2 n2 c2 l2 _ (X0.out.ext (E1.trans he2)) (X1.out.ext (E1.trans he2)) (X2.out.ext (E1.trans he2)) K0.out K1.out e0 e1 e2).mono ?_; rintro e w3 ⟨rfl, he3⟩; rw [← HR.out]) | (go_at_call 10; have E3 := (E1.trans he2).trans he3; refine (implJoint a1 n1 c1 l1 a0 n0 c0 l0 a2 n2 c2 l2 _ (X1.out.ext E3) (X0.out.ext E3) (X2.out.ext E3) K1.out K0.out K2.out e1 e0 e2).mono ?_; rintro e w4 ⟨rfl, he4⟩; rw [HC.out, ← HR.out]) | (go_at_call 10; refine (implJoint a0 n0 c0 l0 a1 n1 c1 l1 a2 n2 c2 l2 _ (X0.out.ext E1) (X1.out.ext E1) (X2.out.ext E1) K0.out K1.out K2.out e0 e1 e2).mono ?_; rintro e w2 ⟨rfl, he2⟩; rw [← HR.out]) | fail)
        go_ret
        exact ⟨rfl, E3.trans he4⟩
    · have F := Lib.hid (show ([(a0, n0, c0), (a1, n1, c1)] : List (Option Addr × Nat × Nat)).all fewB = false by simp [fewB]; omega)
      clear f
      go_enter Try.func3, Try.ntmps3
      go_wp2_with (first | (go_at_call 9; refine (few_any (some ⟨w.heap.size, 0, none⟩) 2 2 [(a0, n0, c0), (a1, n1, c1)] _ (slRow_new w _ _ 2 rfl rfl (by decide)) (by omega)).mono ?_; rintro e w1 ⟨rfl, he1⟩; rw [F.out]) | fail)
      go_ret
      exact ⟨rfl, by (repeat (first | with_reducible exact Ext.refl _ | with_reducible assumption | with_reducible apply Ext.alloc | with_reducible apply Ext.drew | with_reducible apply Ext.drewN | (with_reducible refine Ext.trans ?_ (by assumption)) | ((with_reducible refine Ext.set ?_ ?_ _); rotate_left; (focus (first | (simp; done) | omega | (simp; omega))))))⟩
end Go.Proofs.Ytakighadedgemaa
