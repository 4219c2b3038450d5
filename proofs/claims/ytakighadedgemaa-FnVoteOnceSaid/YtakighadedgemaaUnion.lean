/-
  spec.Union, spec.Has.
-/
import Derived.Test.YtakighadedgemaaRows
import Derived.Test.YtakighadedgemaaBase
import Derived.Test.YtakighadedgemaaSees
import Derived.Test.YtakighadedgemaaU64s
import Derived.Test.YtakighadedgemaaVoteP
import Derived.Test.YtakighadedgemaaVoteM
import Derived.Test.YtakighadedgemaaSetP
import Derived.Test.YtakighadedgemaaSet
import Derived.Test.YtakighadedgemaaApp
set_option linter.unusedVariables false
set_option linter.unusedSimpArgs false
namespace Go.Proofs.Ytakighadedgemaa
open Go.RowKit

set_option maxHeartbeats 1000000 in
theorem specHas (a : Option Addr) (n c : Nat) (ids : List Int) (x : Int) (w : World) (h : FlatRow w 1 u64C a n c ids) (hn : n ≤ 2147483647) :
    Calls Try.prog 13 #[.slice a n c, .int .u64 x] w fun r w' => r = .returned (.bool (decide (x ∈ ids))) ∧ w' = w := by
  have hl := h.length
  have X := Lib.hid h
  have HL := Lib.hid hl
  clear h hl
  obtain ⟨t, ht⟩ : ∃ t, t = decide (x ∈ ids) := ⟨_, rfl⟩
  rw [← ht]
  have HT := Lib.hid ht
  clear ht
  go_enter Try.func13, Try.ntmps13
  go_wp2
  go_loopw [9] (fun i wr => ∃ (k : Nat), k ≤ n ∧ i = .int .i64 k ∧ x ∉ ids.take k ∧ wr = w) (fun i _ => n - (intOf i).toNat)
  case atStart => exact ⟨0, Nat.zero_le _, rfl, by simp, rfl⟩
  case round =>
    obtain ⟨k, hk, rfl, hni, rfl⟩ := hrel
    by_cases hlt : k < n
    · obtain ⟨y, hy⟩ := get_of_lt ids (k := k) (by rw [HL.out]; exact hlt)
      obtain ⟨ab, off, rfl, hc⟩ := X.out.at_ k _ hy
      have c0 : wr.cell? ⟨ab, off + k, none⟩ = some (.int .u64 y) := by
        have := hc 0 _ rfl
        rw [Nat.mul_one, Nat.add_zero] at this
        exact this
      by_cases hxy : y = x
      · have H1 := Lib.hid (show t = true by rw [HT.out, decide_eq_true_eq]; rw [← hxy]; exact List.mem_of_getElem? hy)
        clear hc hy hni
        subst hxy
        go_wp2
        refine bodyPost_ret (results_tmp rfl _ _ _) rfl ?_
        exact ⟨by rw [H1.out]; rfl, rfl⟩
      · have HS := Lib.hid (show x ∉ ids.take (k + 1) by rw [take_succ_of hy, List.mem_append]; rintro (h | h); exact hni h; simp at h; exact hxy h.symm)
        clear hc hy hni
        go_wp2
        go_roundw
        case rel => exact ⟨k + 1, by omega, by go_num, HS.out, trivial⟩
        case measure => simp [intOf]; omega
    · obtain rfl : k = n := by omega
      rw [List.take_of_length_le (by rw [HL.out]; omega)] at hni
      have H1 := Lib.hid (show t = false by rw [HT.out, decide_eq_false_iff_not]; exact hni)
      clear hni
      go_wp2
      refine bodyPost_ret (results_tmp rfl _ _ _) rfl ?_
      exact ⟨by rw [H1.out]; rfl, rfl⟩

set_option maxRecDepth 100000 in
set_option maxHeartbeats 1000000 in
theorem specUnion (a1 : Option Addr) (n1 c1 : Nat) (l1 : List Int) (a2 : Option Addr) (n2 c2 : Nat) (l2 : List Int) (w : World) (h1 : FlatRow w 1 u64C a1 n1 c1 l1) (h2 : FlatRow w 1 u64C a2 n2 c2 l2) (k1 : inU l1) (k2 : inU l2) (hn : n1 + n2 ≤ 2147483647) :
    Calls Try.prog 12 #[.slice a1 n1 c1, .slice a2 n2 c2] w fun r w' => ∃ (v : Value) (ks : List Int), r = .returned v ∧ ks.Nodup ∧ (∀ x, x ∈ ks ↔ x ∈ l1 ++ l2) ∧ w'.ownsRow w.heap.size 28 1 v ks.length (ks.flatMap u64C) ∧ Ext w w' := by
  obtain ⟨i0, hi, hz0, hz1, hz2⟩ := info_parts infoU
  have X1 := Lib.hid h1
  have X2 := Lib.hid h2
  have K : Hid (inU (l1 ++ l2)) := fun x hx => by rcases List.mem_append.1 hx with h | h; exact k1 x h; exact k2 x h
  clear h1 h2 k1 k2
  go_enter Try.func12, Try.ntmps12
  go_wp2_with (first | (go_at_call 29; refine (specSet _ _ _ (l1 ++ l2) _ HF2.out K.out (by omega)).mono ?_; rintro r w3 ⟨v3, ks, rfl, hnd, hmem, hown3, he3⟩; have R := Lib.hid (And.intro hnd (And.intro hmem hown3)); have he3' : Ext w2 w3 := he3; obtain ⟨av, cv, rfl⟩ := ownsRow_shape hown3; clear hnd hmem hown3) | (at_builtin; refine append_flat _ rfl _ _ 22 rfl w.heap.size 28 i0 _ 1 8 Try.underlying22 hi hz0 hz1 hz2 rfl (by decide) _ n1 _ rfl HO1.out a2 n2 c2 u64C u64C_length l2 rfl (X2.out.ext E1) (u64_one _) (by unfold maxLen; omega) (by omega) (by have := E1.size; omega) ?_; intro v2 w2 hown2 hgrow2; have E2 : Ext w w2 := Ext.grown E1 hgrow2 (fun k hk => (HO1.out.lt k hk).1); rw [List.nil_append, ← List.flatMap_append] at hown2; obtain ⟨ad2, cc2, rfl, hf2⟩ := FlatRow.of_owns u64C u64C_length (by decide) hown2; have HF2 := Lib.hid hf2; clear hown2 hgrow2 hf2) | (at_builtin; refine append_flat _ rfl _ _ 22 rfl w.heap.size 28 i0 _ 1 8 Try.underlying22 hi hz0 hz1 hz2 rfl (by decide) _ 0 [] rfl (World.ownsRow_made w #[] 0 (Nat.le_refl _) (Nat.zero_le _) rfl) a1 n1 c1 u64C u64C_length l1 rfl (X1.out.ext (by (repeat (first | with_reducible exact Ext.refl _ | with_reducible assumption | with_reducible apply Ext.alloc | with_reducible apply Ext.drew | with_reducible apply Ext.drewN | (with_reducible refine Ext.trans ?_ (by assumption)) | ((with_reducible refine Ext.set ?_ ?_ _); rotate_left; (focus (first | (simp; done) | omega | (simp; omega)))))))) (u64_one _) (by unfold maxLen; omega) (by omega) (by simp) ?_; intro v1 w1 hown1 hgrow1; have E1 : Ext w w1 := Ext.grown ((Ext.refl w).alloc _) hgrow1 (fun k hk => ((World.ownsRow_made (e := 28) (size := 1) w #[] 0 (Nat.le_refl _) (Nat.zero_le _) rfl).lt k hk).1); rw [Nat.zero_add] at hown1; obtain ⟨ad1, cc1, rfl⟩ := ownsRow_shape hown1; have HO1 := Lib.hid hown1; clear hown1 hgrow1) | fail)
  refine bodyPost_ret (results_tmp rfl _ _ _) rfl ?_
  refine ⟨_, ks, rfl, R.out.1, R.out.2.1, ?_, E2.trans he3'⟩
  refine ⟨R.out.2.2.1, R.out.2.2.2.imp id fun ⟨g, cap, cur, q1, q2, q3⟩ => ⟨g, cap, cur, q1, Nat.le_trans E2.size q2, q3⟩⟩
end Go.Proofs.Ytakighadedgemaa
