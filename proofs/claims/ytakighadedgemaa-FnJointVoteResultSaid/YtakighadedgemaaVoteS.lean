/-
  spec's results of votes; few.
-/
import Derived.Test.YtakighadedgemaaRows
import Derived.Test.YtakighadedgemaaBase
import Derived.Test.YtakighadedgemaaSees
import Derived.Test.YtakighadedgemaaU64s
import Derived.Test.YtakighadedgemaaVoteP
import Derived.Test.YtakighadedgemaaVoteM
import Derived.Test.YtakighadedgemaaVoteJ
import Derived.Test.YtakighadedgemaaVoteI
import Derived.Test.YtakighadedgemaaSetP
import Derived.Test.YtakighadedgemaaSet
import Derived.Deep.RegionWith
set_option linter.unusedVariables false
set_option linter.unusedSimpArgs false
namespace Go.Proofs.Ytakighadedgemaa
open Go.RowKit

theorem ballN_yes {l : List (Int × Bool)} {x : Int} (h : isYes l x = true) : ballN l x = 1 := by unfold ballN; rw [if_pos h]
theorem ballN_open {l : List (Int × Bool)} {x : Int} (h0 : isYes l x = false) (h : isOpen l x = true) : ballN l x = 0 := by unfold ballN; rw [if_neg (by rw [h0]; decide), if_pos h]
theorem ballN_no {l : List (Int × Bool)} {x : Int} (h0 : isYes l x = false) (h : isOpen l x = false) : ballN l x = -1 := by unfold ballN; rw [if_neg (by rw [h0]; decide), if_neg (by rw [h]; decide)]
theorem filt_snoc (ks : List Int) (p : Int → Bool) (x : Int) : ((ks ++ [x]).filter p).length = (ks.filter p).length + if p x = true then 1 else 0 := by
  rw [List.filter_append, List.length_append]
  congr 1
  by_cases h : p x = true <;> simp [h]

set_option maxRecDepth 100000 in
set_option maxHeartbeats 2000000 in
theorem specVoteR (a1 : Option Addr) (n1 c1 : Nat) (ids : List Int) (a2 : Option Addr) (n2 c2 : Nat) (l : List (Int × Bool)) (w : World) (h1 : FlatRow w 1 u64C a1 n1 c1 ids) (h2 : FlatRow w 2 Bal.cells a2 n2 c2 l) (k1 : inU ids) (e1 : n1 ≤ 2147483647) (e2 : n2 ≤ 2147483647) :
    Calls Try.prog 28 #[.slice a1 n1 c1, .slice a2 n2 c2] w fun r w' => r = .returned (.int .i64 (majR ids l)) ∧ Ext w w' := by
  have H1 := Lib.hid h1
  have H2 := Lib.hid h2
  have K1 := Lib.hid k1
  have hln : ids.length = n1 := h1.length
  have HLN := Lib.hid hln
  clear h1 h2 k1 hln
  go_enter Try.func28, Try.ntmps28
  go_wp2_with (first | (go_at_call 29; refine (specSet a1 n1 c1 ids _ H1.out K1.out e1).mono ?_; rintro e w1 ⟨v1, ks, rfl, hnd, hmem, hown, he1⟩; obtain ⟨av, cv, rfl, hfl⟩ := FlatRow.of_owns u64C u64C_length (by decide) hown; have HF := Lib.hid hfl; have ND := Lib.hid hnd; have ME := Lib.hid hmem; have hle := nodup_le ks ids hnd (fun x hx => (hmem x).1 hx); rw [HLN.out] at hle; have HL := Lib.hid (show ks.length = ks.length from rfl); clear hnd hmem hown hfl) | fail)
  obtain ⟨m, hm⟩ : ∃ m, m = ks.length := ⟨_, rfl⟩
  rw [← hm] at HF hle ⊢
  have HM := Lib.hid hm
  clear hm HL
  go_loopw [6, 7, 14] (fun y o i wr => ∃ (k : Nat), k ≤ m ∧ i = .int .i64 k ∧ y = .int .i64 ((ks.take k).filter (isYes l)).length ∧ o = .int .i64 ((ks.take k).filter (isOpen l)).length ∧ Ext w1 wr) (fun _ _ i _ => m - (intOf i).toNat)
  case atStart => exact ⟨0, Nat.zero_le _, rfl, rfl, rfl, Ext.refl _⟩
  case round =>
    obtain ⟨k, hk, rfl, rfl, rfl, hext⟩ := hrel
    by_cases hlt : k < m
    · obtain ⟨x, hy⟩ := get_of_lt ks (k := k) (by rw [← HM.out]; exact hlt)
      obtain ⟨ab, off, rfl, hc⟩ := HF.out.at_ k _ hy
      have c0 : wr.cell? ⟨ab, off + k, none⟩ = some (.int .u64 x) := by
        have := hc 0 _ rfl
        rw [Nat.mul_one, Nat.add_zero] at this
        rw [Below.cell hext (World.block_lt_of_cell? w1 _ this)]; exact this
      have s1 : ((ks.take (k + 1)).filter (isYes l)).length = ((ks.take k).filter (isYes l)).length + if isYes l x = true then 1 else 0 := by rw [take_succ_of hy, filt_snoc]
      have s2 : ((ks.take (k + 1)).filter (isOpen l)).length = ((ks.take k).filter (isOpen l)).length + if isOpen l x = true then 1 else 0 := by rw [take_succ_of hy, filt_snoc]
      have b1 : ((ks.take k).filter (isYes l)).length ≤ k := Nat.le_trans (List.length_filter_le _ _) (List.length_take_le _ _)
      have b2 : ((ks.take k).filter (isOpen l)).length ≤ k := Nat.le_trans (List.length_filter_le _ _) (List.length_take_le _ _)
      obtain ⟨cy, hcy⟩ : ∃ c, c = ((ks.take k).filter (isYes l)).length := ⟨_, rfl⟩
      obtain ⟨co, hco⟩ : ∃ c, c = ((ks.take k).filter (isOpen l)).length := ⟨_, rfl⟩
      rw [← hcy] at s1 b1 ⊢
      rw [← hco] at s2 b2 ⊢
      have S1 := Lib.hid s1
      have S2 := Lib.hid s2
      clear hc hy s1 s2 hcy hco
      have E0 : Ext w wr := he1.trans hext
      cases hy1 : isYes l x with
      | true =>
        have ho1 : isOpen l x = false := by unfold isYes at hy1; unfold isOpen; simp at hy1 ⊢; rw [hy1]; simp
        have B := Lib.hid (ballN_yes hy1)
        have Y1 := Lib.hid hy1
        have O1 := Lib.hid ho1
        clear hy1 ho1
        go_wp2_with (first | (go_at_call 39; refine (specVote x a2 n2 c2 l _ (H2.out.ext E0) e2).mono ?_; rintro e w2 ⟨rfl, he2⟩; rw [B.out]) | fail)
        go_roundw
        case rel => exact ⟨k + 1, by omega, by go_num, by rw [S1.out, Y1.out]; simp, by rw [S2.out, O1.out]; simp, hext.trans he2⟩
        case measure => simp [intOf]; omega
      | false =>
        cases ho1 : isOpen l x with
        | true =>
          have B := Lib.hid (ballN_open hy1 ho1)
          have Y1 := Lib.hid hy1
          have O1 := Lib.hid ho1
          clear hy1 ho1
          go_wp2_with (first | (go_at_call 39; refine (specVote x a2 n2 c2 l _ (H2.out.ext E0) e2).mono ?_; rintro e w2 ⟨rfl, he2⟩; rw [B.out]) | fail)
          go_roundw
          case rel => exact ⟨k + 1, by omega, by go_num, by rw [S1.out, Y1.out]; simp, by rw [S2.out, O1.out]; simp, hext.trans he2⟩
          case measure => simp [intOf]; omega
        | false =>
          have B := Lib.hid (ballN_no hy1 ho1)
          have Y1 := Lib.hid hy1
          have O1 := Lib.hid ho1
          clear hy1 ho1
          go_wp2_with (first | (go_at_call 39; refine (specVote x a2 n2 c2 l _ (H2.out.ext E0) e2).mono ?_; rintro e w2 ⟨rfl, he2⟩; rw [B.out]) | fail)
          go_roundw
          case rel => exact ⟨k + 1, by omega, by go_num, by rw [S1.out, Y1.out]; simp, by rw [S2.out, O1.out]; simp, hext.trans he2⟩
          case measure => simp [intOf]; omega
    · obtain rfl : k = m := by omega
      rw [List.take_of_length_le (by rw [← HM.out]; exact Nat.le_refl _)]
      obtain ⟨cy, hcy⟩ : ∃ c, c = (ks.filter (isYes l)).length := ⟨_, rfl⟩
      obtain ⟨co, hco⟩ : ∃ c, c = (ks.filter (isOpen l)).length := ⟨_, rfl⟩
      have b1 : cy ≤ k := by rw [hcy, HM.out]; exact List.length_filter_le _ _
      have b2 : co ≤ k := by rw [hco, HM.out]; exact List.length_filter_le _ _
      have hR : majR ids l = majN k cy co := by rw [← majR_of ND.out ME.out]; unfold majOn; rw [← HM.out, ← hcy, ← hco]
      rw [← hcy, ← hco]
      have HR := Lib.hid hR
      clear hcy hco hR
      have E0 : Ext w wr := he1.trans hext
      by_cases h0 : k = 0
      · subst h0
        go_wp2
        refine bodyPost_ret (results_tmp rfl _ _ _) rfl ?_
        exact ⟨by rw [HR.out]; rfl, E0⟩
      · have d0 : ((k : Int) == 0) = false := by rw [beq_eq_false_iff_ne]; omega
        by_cases q1 : k < 2 * cy
        · have q1' : (k : Int) < 2 * (cy : Int) := by omega
          have hv : majN k cy co = 3 := by unfold majN; rw [if_neg h0, if_pos (by omega)]
          have HV := Lib.hid hv
          clear hv h0 q1
          go_wp2
          refine bodyPost_ret (results_tmp rfl _ _ _) rfl ?_
          exact ⟨by rw [HR.out, HV.out]; rfl, E0⟩
        · have q1' : ¬ (k : Int) < 2 * (cy : Int) := by omega
          by_cases q2 : k < 2 * (cy + co)
          · have q2' : (k : Int) < 2 * ((cy : Int) + (co : Int)) := by omega
            have hv : majN k cy co = 1 := by unfold majN; rw [if_neg h0, if_neg (by omega), if_pos (by omega)]
            have HV := Lib.hid hv
            clear hv h0 q1 q2
            go_wp2
            refine bodyPost_ret (results_tmp rfl _ _ _) rfl ?_
            exact ⟨by rw [HR.out, HV.out]; rfl, E0⟩
          · have q2' : ¬ (k : Int) < 2 * ((cy : Int) + (co : Int)) := by omega
            have hv : majN k cy co = 2 := by unfold majN; rw [if_neg h0, if_neg (by omega), if_neg (by omega)]
            have HV := Lib.hid hv
            clear hv h0 q1 q2
            go_wp2
            refine bodyPost_ret (results_tmp rfl _ _ _) rfl ?_
            exact ⟨by rw [HR.out, HV.out]; rfl, E0⟩
end Go.Proofs.Ytakighadedgemaa
