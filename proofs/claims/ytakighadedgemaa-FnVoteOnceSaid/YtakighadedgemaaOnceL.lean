/-
  FnVoteOnce's own walk.
-/
import Derived.Test.YtakighadedgemaaRows
import Derived.Test.YtakighadedgemaaBase
import Derived.Test.YtakighadedgemaaSees
import Derived.Test.YtakighadedgemaaU64s
import Derived.Test.YtakighadedgemaaVoteP
import Derived.Test.YtakighadedgemaaVoteM
import Derived.Test.YtakighadedgemaaVoteI
import Derived.Test.YtakighadedgemaaFew
import Derived.Test.YtakighadedgemaaSet
import Derived.Test.YtakighadedgemaaUnion
import Derived.Test.YtakighadedgemaaOnceP
import Derived.Maps.AppendAt
import Derived.Deep.RegionWith
set_option linter.unusedVariables false
set_option linter.unusedSimpArgs false
namespace Go.Proofs.Ytakighadedgemaa
open Go.RowKit

theorem Bal.cells_length (b : Int × Bool) : (Bal.cells b).length = 2 := rfl
theorem infoBal : (Try.prog.info? 31).map (fun i => (i.zero, i.size, i.bytes)) = some (some (.agg #[.int .u64 0, .bool false]), 2, 16) := by kernel_rfl
def fA (first : List Int) (x : Int) : Bool := decide (x ∈ first)
def fB (first second : List Int) (x : Int) : Bool := !decide (x ∈ first) && decide (x ∈ second)

theorem own_other {w w' : World} {base : Nat} {e : TypeId} {size n : Nat} {u v : Value} {xs : List Value} (h : w.ownsRow base e size v n xs) (hg : w.grownBy w' u.ownBlock) (hd : ∀ g, u.ownBlock = some g → v.ownBlock ≠ some g) : w'.ownsRow base e size v n xs := by
  refine h.kept hg ?_
  cases hv : v.ownBlock with
  | none => exact .inl rfl
  | some g =>
    refine .inr fun e => ?_
    exact hd g e.symm hv
theorem dis_left {w : World} {base : Nat} {e : TypeId} {size n : Nat} {u u' v : Value} {xs : List Value} (h : w.ownsRow base e size v n xs) (hd : ∀ g, u.ownBlock = some g → v.ownBlock ≠ some g) (hl : u'.ownBlock = u.ownBlock ∨ u'.ownBlock = some w.heap.size) : ∀ g, u'.ownBlock = some g → v.ownBlock ≠ some g := by
  intro g hg hv
  rcases hl with hl | hl
  · exact hd g (hl ▸ hg) hv
  · rw [hl] at hg
    simp at hg
    subst hg
    have := (h.lt _ hv).2
    omega
theorem dis_sym {u v : Value} (hd : ∀ g, u.ownBlock = some g → v.ownBlock ≠ some g) : ∀ g, v.ownBlock = some g → u.ownBlock ≠ some g := fun g hg hu => hd g hu hg

set_option maxRecDepth 100000 in
set_option maxHeartbeats 4000000 in
theorem fnVoteOnceW (v0 : Value) (l0 : List Int) {w : World} (h0 : U64V w v0 l0) (v1 : Value) (l1 : List Int) (h1 : U64V w v1 l1) (v2 : Value) (l2 : List Int) (h2 : U64V w v2 l2) (v3 : Value) (l3 : List Int) (h3 : U64V w v3 l3) :
    Calls Try.prog 4 #[v0, v1, v2, v3] w fun e w' => e = .returned (.bool true) ∧ Ext w w' := by
  obtain ⟨i0, hi, hz0, hz1, hz2⟩ := info_parts infoBal
  obtain ⟨a0, n0, c0, rfl, hr0, hk0⟩ := h0
  obtain ⟨a1, n1, c1, rfl, hr1, hk1⟩ := h1
  obtain ⟨a2, n2, c2, rfl, hr2, hk2⟩ := h2
  obtain ⟨a3, n3, c3, rfl, hr3, hk3⟩ := h3
  have X0 := Lib.hid hr0
  have X1 := Lib.hid hr1
  have X2 := Lib.hid hr2
  have X3 := Lib.hid hr3
  have K0 := Lib.hid (show inU l0 from hk0)
  have K1 := Lib.hid (show inU l1 from hk1)
  have HL0 := Lib.hid hr0.length
  clear hr0 hr1 hr2 hr3 hk0 hk1 hk2 hk3
  by_cases g0 : (2147483647 : Int) < n0
  · go_enter Try.func4, Try.ntmps4
    go_wp2
    go_ret
    exact ⟨rfl, by (repeat (first | with_reducible exact Ext.refl _ | with_reducible assumption | with_reducible apply Ext.alloc | with_reducible apply Ext.drew | with_reducible apply Ext.drewN | (with_reducible refine Ext.trans ?_ (by assumption)) | ((with_reducible refine Ext.set ?_ ?_ _); rotate_left; (focus (first | (simp; done) | omega | (simp; omega))))))⟩
  by_cases g1 : (2147483647 : Int) < n1
  · go_enter Try.func4, Try.ntmps4
    go_wp2
    go_ret
    exact ⟨rfl, by (repeat (first | with_reducible exact Ext.refl _ | with_reducible assumption | with_reducible apply Ext.alloc | with_reducible apply Ext.drew | with_reducible apply Ext.drewN | (with_reducible refine Ext.trans ?_ (by assumption)) | ((with_reducible refine Ext.set ?_ ?_ _); rotate_left; (focus (first | (simp; done) | omega | (simp; omega))))))⟩
  by_cases g2 : (2147483647 : Int) < n2
  · go_enter Try.func4, Try.ntmps4
    go_wp2
    go_ret
    exact ⟨rfl, by (repeat (first | with_reducible exact Ext.refl _ | with_reducible assumption | with_reducible apply Ext.alloc | with_reducible apply Ext.drew | with_reducible apply Ext.drewN | (with_reducible refine Ext.trans ?_ (by assumption)) | ((with_reducible refine Ext.set ?_ ?_ _); rotate_left; (focus (first | (simp; done) | omega | (simp; omega))))))⟩
  by_cases g3 : (2147483647 : Int) < n3
  · go_enter Try.func4, Try.ntmps4
    go_wp2
    go_ret
    exact ⟨rfl, by (repeat (first | with_reducible exact Ext.refl _ | with_reducible assumption | with_reducible apply Ext.alloc | with_reducible apply Ext.drew | with_reducible apply Ext.drewN | (with_reducible refine Ext.trans ?_ (by assumption)) | ((with_reducible refine Ext.set ?_ ?_ _); rotate_left; (focus (first | (simp; done) | omega | (simp; omega))))))⟩
  cases hf : ([(a0, n0, c0), (a1, n1, c1), (a2, n2, c2), (a3, n3, c3)] : List (Option Addr × Nat × Nat)).all fewB with
  | false =>
    have F := Lib.hid hf
    clear hf
    go_enter Try.func4, Try.ntmps4
    go_wp2_with (first | (go_at_call 9; refine (few_any (some ⟨w.heap.size, 0, none⟩) 4 4 [(a0, n0, c0), (a1, n1, c1), (a2, n2, c2), (a3, n3, c3)] _ (slRow_new w _ _ 4 rfl rfl (by decide)) (by omega)).mono ?_; rintro e w1 ⟨rfl, he1⟩; rw [F.out]) | fail)
    go_ret
    exact ⟨rfl, by (repeat (first | with_reducible exact Ext.refl _ | with_reducible assumption | with_reducible apply Ext.alloc | with_reducible apply Ext.drew | with_reducible apply Ext.drewN | (with_reducible refine Ext.trans ?_ (by assumption)) | ((with_reducible refine Ext.set ?_ ?_ _); rotate_left; (focus (first | (simp; done) | omega | (simp; omega))))))⟩
  | true =>
    have hall : n0 ≤ 40 ∧ n1 ≤ 40 ∧ n2 ≤ 40 ∧ n3 ≤ 40 := by simpa [fewB] using hf
    obtain ⟨q0, q1, q2, q3⟩ := hall
    have F := Lib.hid hf
    clear hf
    by_cases hz : n0 = 0
    · have hzz : ((n0 : Int) == 0) = true := by rw [hz]; rfl
      clear hz
      go_enter Try.func4, Try.ntmps4
      go_wp2_with (first | (go_at_call 9; refine (few_any (some ⟨w.heap.size, 0, none⟩) 4 4 [(a0, n0, c0), (a1, n1, c1), (a2, n2, c2), (a3, n3, c3)] _ (slRow_new w _ _ 4 rfl rfl (by decide)) (by omega)).mono ?_; rintro e w1 ⟨rfl, he1⟩; rw [F.out]) | fail)
      go_ret
      exact ⟨rfl, by (repeat (first | with_reducible exact Ext.refl _ | with_reducible assumption | with_reducible apply Ext.alloc | with_reducible apply Ext.drew | with_reducible apply Ext.drewN | (with_reducible refine Ext.trans ?_ (by assumption)) | ((with_reducible refine Ext.set ?_ ?_ _); rotate_left; (focus (first | (simp; done) | omega | (simp; omega))))))⟩
    have hzz : ((n0 : Int) == 0) = false := by rw [beq_eq_false_iff_ne]; omega
    have NE := Lib.hid (show l0 ≠ [] by intro e; rw [e] at HL0; exact hz HL0.out.symm)
    clear hz
    go_enter Try.func4, Try.ntmps4
    go_wp2_with (first | (go_at_call 9; refine (few_any (some ⟨w.heap.size, 0, none⟩) 4 4 [(a0, n0, c0), (a1, n1, c1), (a2, n2, c2), (a3, n3, c3)] _ (slRow_new w _ _ 4 rfl rfl (by decide)) (by omega)).mono ?_; rintro e w1 ⟨rfl, he1⟩; rw [F.out]; have E1 : Ext w w1 := ((Ext.refl w).alloc _).trans he1) | (go_at_call 12; refine (specUnion a0 n0 c0 l0 a1 n1 c1 l1 _ (X0.out.ext E1) (X1.out.ext E1) K0.out K1.out (by omega)).mono ?_; rintro r w2 ⟨v2, ks, rfl, hnd, hmem, hown2, he2⟩; obtain ⟨av, cv, rfl, hfl⟩ := FlatRow.of_owns u64C u64C_length (by decide) hown2; have HF := Lib.hid hfl; have ME := Lib.hid hmem; have ND := Lib.hid hnd; have E2 := E1.trans he2; clear hnd hmem hown2 hfl) | fail)
    have hkl : ks.length ≤ 80 := by
      have := nodup_le ks (l0 ++ l1) ND.out (fun x hx => (ME.out x).1 hx)
      rw [List.length_append, HL0.out, X1.out.length] at this
      omega
    obtain ⟨m, hm⟩ : ∃ m, m = ks.length := ⟨_, rfl⟩
    rw [← hm] at HF hkl ⊢
    have HM := Lib.hid hm
    clear hm
    go_loopw [9, 10, 52] (fun u v i wr => ∃ (k : Nat), k ≤ m ∧ i = .int .i64 k ∧ wr.ownsRow w2.heap.size 31 2 u k ((balOf (fA l2) (ks.take k)).flatMap Bal.cells) ∧ wr.ownsRow w2.heap.size 31 2 v k ((balOf (fB l2 l3) (ks.take k)).flatMap Bal.cells) ∧ (∀ g, u.ownBlock = some g → v.ownBlock ≠ some g) ∧ Ext w2 wr) (fun _ _ i _ => m - (intOf i).toNat)
    case atStart => exact ⟨0, Nat.zero_le _, rfl, World.ownsRow_nil _ _ _ _, World.ownsRow_nil _ _ _ _, (fun g hg => by cases hg), Ext.refl _⟩
    case round =>
      obtain ⟨k, hk, rfl, hown1, hown2, hdis, hext⟩ := hrel
      by_cases hlt : k < m
      · obtain ⟨x, hy⟩ := get_of_lt ks (k := k) (by rw [← HM.out]; exact hlt)
        obtain ⟨ab, off, rfl, hc⟩ := HF.out.at_ k _ hy
        have d0 : wr.cell? ⟨ab, off + k, none⟩ = some (.int .u64 x) := by
          have := hc 0 _ rfl
          rw [Nat.mul_one, Nat.add_zero] at this
          rw [Below.cell hext (World.block_lt_of_cell? w2 _ this)]; exact this
        have HA := Lib.hid hown1
        have HB := Lib.hid hown2
        have HD := Lib.hid hdis
        have HT := Lib.hid (show ∀ f, balOf f (ks.take (k + 1)) = balOf f (ks.take k) ++ [(x, f x)] from fun f => by rw [take_succ_of hy, balOf_snoc])
        have E0 : Ext w wr := E2.trans hext
        clear hc hy hown1 hown2 hdis
        obtain ⟨t1, ht1⟩ : ∃ t, t = decide (x ∈ l2) := ⟨_, rfl⟩
        obtain ⟨t2, ht2⟩ : ∃ t, t = decide (x ∈ l3) := ⟨_, rfl⟩
        have T1 := Lib.hid ht1
        have T2 := Lib.hid ht2
        clear ht1 ht2
        rcases t1 with _ | _
        · rcases t2 with _ | _
          · skip
            have F1 := Lib.hid (show fA l2 x = false by unfold fA; rw [← T1.out])
            have F2 := Lib.hid (show fB l2 l3 x = false by unfold fB; rw [← T1.out, ← T2.out]; rfl)
            go_wp2_with (first | (go_at_call_of 13 (Value.slice a2 n2 c2); refine (specHas a2 n2 c2 l2 x _ (X2.out.ext E0) (by omega)).mono ?_; rintro e w3 ⟨rfl, h3⟩; rw [h3, ← T1.out]; clear h3) | (at_builtin; refine wpList_append_own_at _ rfl _ _ 23 rfl w2.heap.size 31 i0 _ 2 16 Try.underlying23 hi hz0 hz1 hz2 rfl (by decide) _ _ _ rfl (HA.out.alloc _) ⟨wr.heap.size, 0, none⟩ 1 1 (Bal.cells (x, false)) rfl rfl (cells_new1 _ _ _ rfl (by rfl)) (by simp [Bal.cells, Value.oneCell']) (by unfold maxLen; omega) (by omega) (by simp; have := hext.size; omega) ?_; intro v4 w4 hown4 hgrow4 _ hloc4; have E4 : Ext w2 w4 := Ext.grown (hext.alloc _) hgrow4 (fun j hj => (HA.out.lt j hj).1); have HB4 := Lib.hid (own_other (HB.out.alloc _) hgrow4 HD.out); have HD4 := Lib.hid (dis_left (HB.out.alloc _) HD.out hloc4); obtain ⟨ad4, cc4, rfl⟩ := ownsRow_shape hown4; have HA4 := Lib.hid hown4; clear hown4 hgrow4 hloc4) | (go_at_call_of 13 (Value.slice a3 n3 c3); refine (specHas a3 n3 c3 l3 x _ (X3.out.ext (E2.trans E4)) (by omega)).mono ?_; rintro e w5 ⟨rfl, h5⟩; rw [h5, ← T2.out]; clear h5) | (at_builtin; refine wpList_append_own_at _ rfl _ _ 23 rfl w2.heap.size 31 i0 _ 2 16 Try.underlying23 hi hz0 hz1 hz2 rfl (by decide) _ _ _ rfl (HB4.out.alloc _) ⟨w4.heap.size, 0, none⟩ 1 1 (Bal.cells (x, false)) rfl rfl (cells_new1 _ _ _ rfl (by rfl)) (by simp [Bal.cells, Value.oneCell']) (by unfold maxLen; omega) (by omega) (by simp; have := E4.size; omega) ?_; intro v6 w6 hown6 hgrow6 _ hloc6; have E6 : Ext w2 w6 := Ext.grown (E4.alloc _) hgrow6 (fun j hj => (HB4.out.lt j hj).1); have HA6 := Lib.hid (own_other (HA4.out.alloc _) hgrow6 (dis_sym HD4.out)); have HD6 := Lib.hid (dis_sym (dis_left (HA4.out.alloc _) (dis_sym HD4.out) hloc6)); obtain ⟨ad6, cc6, rfl⟩ := ownsRow_shape hown6; have HB6 := Lib.hid hown6; clear hown6 hgrow6 hloc6) | fail)
            go_roundw
            case rel => exact ⟨k + 1, by omega, by go_num, by rw [HT.out, F1.out, List.flatMap_append, List.flatMap_singleton]; exact HA6.out, by rw [HT.out, F2.out, List.flatMap_append, List.flatMap_singleton]; exact HB6.out, HD6.out, E6⟩
            case measure => simp [intOf]; omega
          · skip
            have F1 := Lib.hid (show fA l2 x = false by unfold fA; rw [← T1.out])
            have F2 := Lib.hid (show fB l2 l3 x = true by unfold fB; rw [← T1.out, ← T2.out]; rfl)
            go_wp2_with (first | (go_at_call_of 13 (Value.slice a2 n2 c2); refine (specHas a2 n2 c2 l2 x _ (X2.out.ext E0) (by omega)).mono ?_; rintro e w3 ⟨rfl, h3⟩; rw [h3, ← T1.out]; clear h3) | (at_builtin; refine wpList_append_own_at _ rfl _ _ 23 rfl w2.heap.size 31 i0 _ 2 16 Try.underlying23 hi hz0 hz1 hz2 rfl (by decide) _ _ _ rfl (HA.out.alloc _) ⟨wr.heap.size, 0, none⟩ 1 1 (Bal.cells (x, false)) rfl rfl (cells_new1 _ _ _ rfl (by rfl)) (by simp [Bal.cells, Value.oneCell']) (by unfold maxLen; omega) (by omega) (by simp; have := hext.size; omega) ?_; intro v4 w4 hown4 hgrow4 _ hloc4; have E4 : Ext w2 w4 := Ext.grown (hext.alloc _) hgrow4 (fun j hj => (HA.out.lt j hj).1); have HB4 := Lib.hid (own_other (HB.out.alloc _) hgrow4 HD.out); have HD4 := Lib.hid (dis_left (HB.out.alloc _) HD.out hloc4); obtain ⟨ad4, cc4, rfl⟩ := ownsRow_shape hown4; have HA4 := Lib.hid hown4; clear hown4 hgrow4 hloc4) | (go_at_call_of 13 (Value.slice a3 n3 c3); refine (specHas a3 n3 c3 l3 x _ (X3.out.ext (E2.trans E4)) (by omega)).mono ?_; rintro e w5 ⟨rfl, h5⟩; rw [h5, ← T2.out]; clear h5) | (at_builtin; refine wpList_append_own_at _ rfl _ _ 23 rfl w2.heap.size 31 i0 _ 2 16 Try.underlying23 hi hz0 hz1 hz2 rfl (by decide) _ _ _ rfl (HB4.out.alloc _) ⟨w4.heap.size, 0, none⟩ 1 1 (Bal.cells (x, true)) rfl rfl (cells_new1 _ _ _ rfl (by rfl)) (by simp [Bal.cells, Value.oneCell']) (by unfold maxLen; omega) (by omega) (by simp; have := E4.size; omega) ?_; intro v6 w6 hown6 hgrow6 _ hloc6; have E6 : Ext w2 w6 := Ext.grown (E4.alloc _) hgrow6 (fun j hj => (HB4.out.lt j hj).1); have HA6 := Lib.hid (own_other (HA4.out.alloc _) hgrow6 (dis_sym HD4.out)); have HD6 := Lib.hid (dis_sym (dis_left (HA4.out.alloc _) (dis_sym HD4.out) hloc6)); obtain ⟨ad6, cc6, rfl⟩ := ownsRow_shape hown6; have HB6 := Lib.hid hown6; clear hown6 hgrow6 hloc6) | fail)
            go_roundw
            case rel => exact ⟨k + 1, by omega, by go_num, by rw [HT.out, F1.out, List.flatMap_append, List.flatMap_singleton]; exact HA6.out, by rw [HT.out, F2.out, List.flatMap_append, List.flatMap_singleton]; exact HB6.out, HD6.out, E6⟩
            case measure => simp [intOf]; omega
        · skip
          have F1 := Lib.hid (show fA l2 x = true by unfold fA; rw [← T1.out])
          have F2 := Lib.hid (show fB l2 l3 x = false by unfold fB; rw [← T1.out]; rfl)
          go_wp2_with (first | (go_at_call_of 13 (Value.slice a2 n2 c2); refine (specHas a2 n2 c2 l2 x _ (X2.out.ext E0) (by omega)).mono ?_; rintro e w3 ⟨rfl, h3⟩; rw [h3, ← T1.out]; clear h3) | (at_builtin; refine wpList_append_own_at _ rfl _ _ 23 rfl w2.heap.size 31 i0 _ 2 16 Try.underlying23 hi hz0 hz1 hz2 rfl (by decide) _ _ _ rfl (HA.out.alloc _) ⟨wr.heap.size, 0, none⟩ 1 1 (Bal.cells (x, true)) rfl rfl (cells_new1 _ _ _ rfl (by rfl)) (by simp [Bal.cells, Value.oneCell']) (by unfold maxLen; omega) (by omega) (by simp; have := hext.size; omega) ?_; intro v4 w4 hown4 hgrow4 _ hloc4; have E4 : Ext w2 w4 := Ext.grown (hext.alloc _) hgrow4 (fun j hj => (HA.out.lt j hj).1); have HB4 := Lib.hid (own_other (HB.out.alloc _) hgrow4 HD.out); have HD4 := Lib.hid (dis_left (HB.out.alloc _) HD.out hloc4); obtain ⟨ad4, cc4, rfl⟩ := ownsRow_shape hown4; have HA4 := Lib.hid hown4; clear hown4 hgrow4 hloc4) | (go_at_call_of 13 (Value.slice a3 n3 c3); refine (specHas a3 n3 c3 l3 x _ (X3.out.ext (E2.trans E4)) (by omega)).mono ?_; rintro e w5 ⟨rfl, h5⟩; rw [h5, ← T2.out]; clear h5) | (at_builtin; refine wpList_append_own_at _ rfl _ _ 23 rfl w2.heap.size 31 i0 _ 2 16 Try.underlying23 hi hz0 hz1 hz2 rfl (by decide) _ _ _ rfl (HB4.out.alloc _) ⟨w4.heap.size, 0, none⟩ 1 1 (Bal.cells (x, false)) rfl rfl (cells_new1 _ _ _ rfl (by rfl)) (by simp [Bal.cells, Value.oneCell']) (by unfold maxLen; omega) (by omega) (by simp; have := E4.size; omega) ?_; intro v6 w6 hown6 hgrow6 _ hloc6; have E6 : Ext w2 w6 := Ext.grown (E4.alloc _) hgrow6 (fun j hj => (HB4.out.lt j hj).1); have HA6 := Lib.hid (own_other (HA4.out.alloc _) hgrow6 (dis_sym HD4.out)); have HD6 := Lib.hid (dis_sym (dis_left (HA4.out.alloc _) (dis_sym HD4.out) hloc6)); obtain ⟨ad6, cc6, rfl⟩ := ownsRow_shape hown6; have HB6 := Lib.hid hown6; clear hown6 hgrow6 hloc6) | fail)
          go_roundw
          case rel => exact ⟨k + 1, by omega, by go_num, by rw [HT.out, F1.out, List.flatMap_append, List.flatMap_singleton]; exact HA6.out, by rw [HT.out, F2.out, List.flatMap_append, List.flatMap_singleton]; exact HB6.out, HD6.out, E6⟩
          case measure => simp [intOf]; omega
      · obtain rfl : k = m := by omega
        rw [List.take_of_length_le (by rw [← HM.out]; exact Nat.le_refl _)] at hown1 hown2
        obtain ⟨ad1, cc1, rfl, hf1⟩ := FlatRow.of_owns Bal.cells Bal.cells_length (by decide) hown1
        obtain ⟨ad2, cc2, rfl, hf2⟩ := FlatRow.of_owns Bal.cells Bal.cells_length (by decide) hown2
        have E0 : Ext w wr := E2.trans hext
        have hIB : ∀ f, inB (balOf f ks) := fun f y hy => by
          obtain ⟨x, hx, rfl⟩ := List.mem_map.1 hy
          rcases List.mem_append.1 ((ME.out x).1 hx) with h | h
          · exact K0.out x h
          · exact K1.out x h
        have HIB := Lib.hid hIB
        have HF1 := Lib.hid hf1
        have HF2 := Lib.hid hf2
        obtain ⟨x, y, v, u, q4, q5, q6, q7, hxy, hvu⟩ := voteOnce (fA l2) (fB l2 l3) (fun x hx => by unfold fA at hx; unfold fB; rw [hx]; rfl) ME.out NE.out
        have Q4 := Lib.hid q4
        have Q5 := Lib.hid q5
        have Q6 := Lib.hid q6
        have Q7 := Lib.hid q7
        clear hown1 hown2 hdis hf1 hf2 hIB q4 q5 q6 q7
        have e0 : n0 ≤ 2147483647 := by omega
        have e1 : n1 ≤ 2147483647 := by omega
        have ek : k ≤ 2147483647 := by omega
        rcases hxy with ⟨rfl, rfl⟩ | ⟨rfl, rfl⟩ | ⟨rfl, rfl⟩ <;> rcases hvu with ⟨rfl, rfl⟩ | ⟨rfl, rfl⟩ | ⟨rfl, rfl⟩
        all_goals
          go_wp2_with (first | (go_at_call_of 14 (Value.slice ad1 k cc1); refine (implVote a0 n0 c0 l0 ad1 k cc1 (balOf (fA l2) ks) _ (X0.out.ext E0) HF1.out K0.out (HIB.out _) e0 ek).mono ?_; rintro e w3 ⟨rfl, he3⟩; rw [Q4.out]) | (go_at_call_of 14 (Value.slice ad2 k cc2); refine (implVote a0 n0 c0 l0 ad2 k cc2 (balOf (fB l2 l3) ks) _ (X0.out.ext (E0.trans he3)) (HF2.out.ext he3) K0.out (HIB.out _) e0 ek).mono ?_; rintro e w4 ⟨rfl, he4⟩; rw [Q5.out]; have E4 : Ext wr w4 := he3.trans he4) | (go_at_call_of 10 (Value.slice ad1 k cc1); refine (implJoint a0 n0 c0 l0 a1 n1 c1 l1 ad1 k cc1 (balOf (fA l2) ks) _ (X0.out.ext (E0.trans E4)) (X1.out.ext (E0.trans E4)) (HF1.out.ext E4) K0.out K1.out (HIB.out _) e0 e1 ek).mono ?_; rintro e w5 ⟨rfl, he5⟩; rw [Q6.out]; have E5 : Ext wr w5 := E4.trans he5) | (go_at_call_of 10 (Value.slice ad2 k cc2); refine (implJoint a0 n0 c0 l0 a1 n1 c1 l1 ad2 k cc2 (balOf (fB l2 l3) ks) _ (X0.out.ext (E0.trans E5)) (X1.out.ext (E0.trans E5)) (HF2.out.ext E5) K0.out K1.out (HIB.out _) e0 e1 ek).mono ?_; rintro e w6 ⟨rfl, he6⟩; rw [Q7.out]; have E6 : Ext wr w6 := E5.trans he6) | fail)
          refine bodyPost_ret (results_tmp rfl _ _ _) rfl ?_
          exact ⟨by rfl, E0.trans E6⟩
end Go.Proofs.Ytakighadedgemaa
