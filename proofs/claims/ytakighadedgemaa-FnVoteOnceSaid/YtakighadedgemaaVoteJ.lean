/-
  The result of a vote in a majority and in a joint configuration.
-/
import Derived.Test.YtakighadedgemaaRows
import Derived.Test.YtakighadedgemaaBase
import Derived.Test.YtakighadedgemaaSees
import Derived.Test.YtakighadedgemaaVoteP
import Derived.Test.YtakighadedgemaaVoteM
import Derived.Maps.Own
import Derived.Maps.OwnOps
import Derived.Maps.OwnSet
import Derived.Maps.RangeWalk
import Derived.Deep.RegionWith
set_option linter.unusedVariables false
set_option linter.unusedSimpArgs false
namespace Go.Proofs.Ytakighadedgemaa
open Go.RowKit Go.Maps

theorem invKU : ∀ key kl, keyOf Try.prog 28 key = some kl → ∃ x : Int, key = Value.int .u64 x := fun key kl h => by
  obtain ⟨x, rfl, _⟩ := keyOf_int_inv Try.underlying28 h
  exact ⟨x, rfl⟩
theorem invUnit : ∀ (v : Value) (y : DataW Unit × List MemPlace), unitElem v = some y → ∃ c : Unit, v = Value.agg #[] := fun v y h => ⟨(), (unitElem_inv h).1⟩
theorem keyU_inv {x : Int} {kl : Lit} (h : keyOf Try.prog 28 (.int .u64 x) = some kl) : kl = litU x ∧ (0 ≤ x ∧ x < 18446744073709551616) := by
  obtain ⟨y, h1, rfl, hw⟩ := keyOf_int_inv Try.underlying28 h
  simp at h1
  subst h1
  exact ⟨rfl, wf_u64 hw⟩
theorem zeroB (w : World) : (zeroValue 4).run Try.prog w = .ok (.bool false) w := by kernel_rfl

set_option maxRecDepth 100000 in
theorem look_bal {w : World} {ops : Array Oper} {rest : List Oper} {o : Oper} {a : Act} {Q : Exit → Act → World → Prop} (hg : o.guard = none) (m x : Operand) (hop : o.op = Op.lookup 57 m x true)
    (b n : Nat) (l : List (Int × Bool)) (k : Int) (vo : Option Bool) (hvo : voteOf k l = vo) (hm : a.eval m = .map (some b)) (hx : a.eval x = .int .u64 k) (h : BalM w b n l) (hk : 0 ≤ k ∧ k < 18446744073709551616)
    (hK : wpList Try.prog ops Q rest (a.put o.dst (.tuple #[.bool (vo.getD false), .bool vo.isSome])) w) : wpList Try.prog ops Q (o :: rest) a w := by
  refine wpList_lookup_own_ok w hg m x _ hop _ _ keyU Try.underlying57 (plainElem Try.prog 4) (zeroB w) (.lit (.bool false)) [] (plainElem_bool Try.underlying4 false) b n _ hm h _ _ hx (keyOfU hk) (fun v ps hv => ?_)
  rw [bal_at, hvo] at hv
  rw [bal_has, hvo]
  have e : v = .bool (vo.getD false) := by
    unfold plainElem at hv
    rw [Try.underlying4] at hv
    cases v <;> simp at hv
    obtain ⟨h1, -⟩ := hv
    cases vo with
    | none => simp [pick] at h1; simp [h1]
    | some u => simp [pick] at h1; simp [h1]
  subst e
  exact hK

set_option maxHeartbeats 2000000 in
theorem majVote (b1 n1 : Nat) (ids : List Int) (b2 n2 : Nat) (l : List (Int × Bool)) (w : World) (h1 : SetM w b1 n1 ids) (h2 : BalM w b2 n2 l) (hn : ids.length ≤ 2147483647) :
    Calls Try.prog 30 #[.map (some b1), .map (some b2)] w fun r w' => r = .returned (.int .u8 (majR ids l)) ∧ Ext w w' := by
  obtain ⟨m, hm⟩ : ∃ m, m = (uniq ids).length := ⟨_, rfl⟩
  have hsz : size (setD ids) = m := by rw [size_setD, hm]
  have hmn : m ≤ 2147483647 := by have := uniq_le ids; omega
  have H1 := Lib.hid h1
  have H2 := Lib.hid h2
  have HM := Lib.hid hm
  have HS := Lib.hid hsz
  clear h1 h2 hm hsz
  by_cases h0 : m = 0
  · have HR := Lib.hid (show majR ids l = 3 by unfold majR majOn majN; rw [← HM.out, h0]; rfl)
    subst h0
    go_enter Try.func30, Try.ntmps30
    go_wp2_with (first | (at_len; refine wpList_len_own _ rfl _ 52 rfl 28 _ Try.underlying52 unitElem b1 n1 (setD ids) rfl H1.out ?_; rw [HS.out]) | fail)
    refine bodyPost_ret (results_tmp rfl _ _ _) rfl ?_
    exact ⟨by rw [HR.out]; rfl, Ext.refl _⟩
  · have hm0 : ((m : Int) == 0) = false := by rw [beq_eq_false_iff_ne]; omega
    go_enter Try.func30, Try.ntmps30
    go_wp2_with (first | (at_len; refine wpList_len_own _ rfl _ 52 rfl 28 _ Try.underlying52 unitElem b1 n1 (setD ids) rfl H1.out ?_; rw [HS.out]) | (at_range; refine wpList_range_own _ rfl _ 52 rfl 28 _ keyU Try.underlying52 unitElem b1 n1 (setD ids) rfl H1.out ?_; intro w0 hrg0 hg0 hs0; have E0 : Ext w w0 := Ext.grown (Ext.refl w) hg0 (fun j hj => by cases hj); have HRG := Lib.hid hrg0; clear hrg0 hg0) | fail)
    go_frame
    have HN := Lib.hid (uniq_nodup ids)
    have hsub : ∀ z, has (setD ids) (litU z) = true → z ∈ uniq ids := fun z hz => by rw [has_setD] at hz; rw [mem_uniq]; simpa using hz
    have hin : ∀ z, z ∈ uniq ids → has (setD ids) (litU z) = true := fun z hz => by rw [has_setD]; rw [mem_uniq] at hz; simpa using hz
    have SUB := Lib.hid hsub
    have HIN := Lib.hid hin
    clear hsub hin hs0
    have hlw : w.heap.size < w0.heap.size := HRG.out.lt
    go_loopw [5, 6] (fun y mi wr => ∃ (left : Lit → Bool) (cnt : Nat), wr.ranges Try.prog 28 unitElem b1 w.heap.size n1 (setD ids) left cnt ∧ y = .int .i64 (cntL (uniq ids) (fun z => left (litU z)) (isYes l)) ∧ mi = .int .i64 (cntL (uniq ids) (fun z => left (litU z)) (isOpen l)) ∧ Ext w wr)
      (fun _ _ wr => wr.rangeLeft b1 w.heap.size)
    case atStart => exact ⟨_, _, HRG.out, by rw [cntL_start _ _ _ HIN.out]; rfl, by rw [cntL_start _ _ _ HIN.out]; rfl, E0⟩
    case round =>
      obtain ⟨left, cnt, hrg, rfl, rfl, hext⟩ := hrel
      have hc1 := cntL_le (uniq ids) (fun z => left (litU z)) (isYes l)
      have hc2 := cntL_le (uniq ids) (fun z => left (litU z)) (isOpen l)
      rw [← HM.out] at hc1 hc2
      have HRR := Lib.hid hrg
      clear hrg
      go_wp2_with (first | (at_next; refine wpList_next_ranges _ rfl _ rfl 28 keyU unitElem (Value.int .u64) (fun _ : Unit => Value.agg #[]) invKU invUnit b1 w.heap.size n1 _ _ _ rfl HRR.out ?_ ?_) | fail)
      · intro _ hl0
        rw [cntL_done _ _ _ (fun z => hl0 _), cntL_done _ _ _ (fun z => hl0 _)]
        rw [cntL_done _ _ _ (fun z => hl0 _)] at hc1 hc2
        obtain ⟨yes, hyes⟩ : ∃ y, y = ((uniq ids).filter (isYes l)).length := ⟨_, rfl⟩
        obtain ⟨miss, hmiss⟩ : ∃ y, y = ((uniq ids).filter (isOpen l)).length := ⟨_, rfl⟩
        rw [← hyes, ← hmiss]
        rw [← hyes] at hc1
        rw [← hmiss] at hc2
        have HR := Lib.hid (show majR ids l = majN m yes miss by unfold majR majOn; rw [← HM.out, ← hyes, ← hmiss])
        have HO := Lib.hid (HRR.out.owns)
        clear hyes hmiss
        have q1 : ((m : Int)).tdiv 2 = ((m / 2 : Nat) : Int) := by rw [Int.tdiv_eq_ediv_of_nonneg (by omega)]; omega
        have hmaj : majN m yes miss = if m / 2 + 1 ≤ yes then 3 else if m / 2 + 1 ≤ yes + miss then 1 else 2 := by unfold majN; rw [if_neg h0]
        have HMJ := Lib.hid hmaj
        clear hmaj
        by_cases e1 : m / 2 + 1 ≤ yes
        · have e1' : ((m / 2 : Nat) : Int) + 1 ≤ yes := by omega
          have E1 := Lib.hid e1
          clear e1
          go_wp2_with (first | (at_len; refine wpList_len_own _ rfl _ 52 rfl 28 _ Try.underlying52 unitElem b1 n1 (setD ids) rfl HO.out ?_; rw [HS.out]) | fail)
          refine bodyPost_ret (results_tmp rfl _ _ _) rfl ?_
          exact ⟨by rw [HR.out, HMJ.out, if_pos E1.out]; rfl, hext⟩
        · have e1' : ¬ ((m / 2 : Nat) : Int) + 1 ≤ yes := by omega
          by_cases e2 : m / 2 + 1 ≤ yes + miss
          · have e2' : ((m / 2 : Nat) : Int) + 1 ≤ (yes : Int) + miss := by omega
            have E1 := Lib.hid e1
            have E2 := Lib.hid e2
            clear e1 e2
            go_wp2_with (first | (at_len; refine wpList_len_own _ rfl _ 52 rfl 28 _ Try.underlying52 unitElem b1 n1 (setD ids) rfl HO.out ?_; rw [HS.out]) | fail)
            refine bodyPost_ret (results_tmp rfl _ _ _) rfl ?_
            exact ⟨by rw [HR.out, HMJ.out, if_neg E1.out, if_pos E2.out]; rfl, hext⟩
          · have e2' : ¬ ((m / 2 : Nat) : Int) + 1 ≤ (yes : Int) + miss := by omega
            have E1 := Lib.hid e1
            have E2 := Lib.hid e2
            clear e1 e2
            go_wp2_with (first | (at_len; refine wpList_len_own _ rfl _ 52 rfl 28 _ Try.underlying52 unitElem b1 n1 (setD ids) rfl HO.out ?_; rw [HS.out]) | fail)
            refine bodyPost_ret (results_tmp rfl _ _ _) rfl ?_
            exact ⟨by rw [HR.out, HMJ.out, if_neg E1.out, if_neg E2.out]; rfl, hext⟩
      · intro x _ kl y w1 cnt1 hkey hlk hv hat hrg1 hlt hg1 hs1 hen
        obtain ⟨rfl, hx⟩ := keyU_inv hkey
        have hxm : x ∈ uniq ids := SUB.out x (has_true_of_atKey hat)
        have X1 : Ext w w1 := Ext.grown hext hg1 (fun j hj => by cases hj; exact Nat.le_refl _)
        have st1 := cntL_step (fun z => left (litU z)) (isYes l) x hlk (uniq ids) HN.out hxm
        have st2 := cntL_step (fun z => left (litU z)) (isOpen l) x hlk (uniq ids) HN.out hxm
        obtain ⟨f1, hf1⟩ : ∃ f : Lit → Bool, f = fun z => left z && !z.sameKey (litU x) := ⟨_, rfl⟩
        rw [← hf1] at hrg1
        have hf2 : (fun z : Int => left (litU z) && !decide (z = x)) = fun z => f1 (litU z) := by funext z; rw [hf1]; simp only [same_litU]
        rw [hf2] at st1 st2
        obtain ⟨cy, hcy⟩ : ∃ c, c = cntL (uniq ids) (fun z => left (litU z)) (isYes l) := ⟨_, rfl⟩
        obtain ⟨co, hco⟩ : ∃ c, c = cntL (uniq ids) (fun z => left (litU z)) (isOpen l) := ⟨_, rfl⟩
        rw [← hcy] at st1 hc1 ⊢
        rw [← hco] at st2 hc2 ⊢
        have RG := Lib.hid hrg1
        have MS := Lib.hid (show w1.rangeLeft b1 w.heap.size < wr.rangeLeft b1 w.heap.size by rw [hrg1.left_eq, HRR.out.left_eq]; exact hlt)
        have ST1 := Lib.hid st1
        have ST2 := Lib.hid st2
        clear hrg1 hlt hat hv hkey hf1 hf2 hcy hco st1 st2
        rcases hvo : voteOf x l with _ | (_ | _)
        · have p1 : isYes l x = false := by unfold isYes; rw [hvo]; rfl
          have p2 : isOpen l x = true := by unfold isOpen; rw [hvo]; rfl
          have P1 := Lib.hid p1
          have P2 := Lib.hid p2
          have VO := Lib.hid hvo
          clear p1 p2 hvo
          go_wp2_with (first | (at_lookup; refine look_bal rfl _ _ rfl b2 n2 l x _ VO.out rfl rfl (H2.out.ext X1) hx ?_; simp only [Option.getD_none, Option.isSome_none]) | fail)
          go_roundw
          case rel => exact ⟨f1, cnt1, RG.out, by rw [ST1.out, P1.out]; simp, by rw [ST2.out, P2.out]; simp, X1⟩
          case measure => exact MS.out
        · have p1 : isYes l x = false := by unfold isYes; rw [hvo]; rfl
          have p2 : isOpen l x = false := by unfold isOpen; rw [hvo]; rfl
          have P1 := Lib.hid p1
          have P2 := Lib.hid p2
          have VO := Lib.hid hvo
          clear p1 p2 hvo
          go_wp2_with (first | (at_lookup; refine look_bal rfl _ _ rfl b2 n2 l x _ VO.out rfl rfl (H2.out.ext X1) hx ?_; simp only [Option.getD_some, Option.isSome_some]) | fail)
          go_roundw
          case rel => exact ⟨f1, cnt1, RG.out, by rw [ST1.out, P1.out]; simp, by rw [ST2.out, P2.out]; simp, X1⟩
          case measure => exact MS.out
        · have p1 : isYes l x = true := by unfold isYes; rw [hvo]; rfl
          have p2 : isOpen l x = false := by unfold isOpen; rw [hvo]; rfl
          have P1 := Lib.hid p1
          have P2 := Lib.hid p2
          have VO := Lib.hid hvo
          clear p1 p2 hvo
          go_wp2_with (first | (at_lookup; refine look_bal rfl _ _ rfl b2 n2 l x _ VO.out rfl rfl (H2.out.ext X1) hx ?_; simp only [Option.getD_some, Option.isSome_some]) | fail)
          go_roundw
          case rel => exact ⟨f1, cnt1, RG.out, by rw [ST1.out, P1.out]; simp, by rw [ST2.out, P2.out]; simp, X1⟩
          case measure => exact MS.out

set_option maxHeartbeats 1000000 in
theorem jointVote (b1 n1 : Nat) (ids1 : List Int) (b2 n2 : Nat) (ids2 : List Int) (b3 n3 : Nat) (l : List (Int × Bool)) (w : World) (h1 : SetM w b1 n1 ids1) (h2 : SetM w b2 n2 ids2) (h3 : BalM w b3 n3 l) (hn1 : ids1.length ≤ 2147483647) (hn2 : ids2.length ≤ 2147483647) :
    Calls Try.prog 26 #[.agg #[.map (some b1), .map (some b2)], .map (some b3)] w fun r w' => r = .returned (.int .u8 (jointN (majR ids1 l) (majR ids2 l))) ∧ Ext w w' := by
  have H1 := Lib.hid h1
  have H2 := Lib.hid h2
  have H3 := Lib.hid h3
  have R1 := majR_rng ids1 l
  have R2 := majR_rng ids2 l
  obtain ⟨r1, hr1⟩ : ∃ r, r = majR ids1 l := ⟨_, rfl⟩
  obtain ⟨r2, hr2⟩ : ∃ r, r = majR ids2 l := ⟨_, rfl⟩
  rw [← hr1, ← hr2]
  rw [← hr1] at R1
  rw [← hr2] at R2
  have Q1 := Lib.hid hr1
  have Q2 := Lib.hid hr2
  clear h1 h2 h3 hr1 hr2
  rcases R1 with rfl | rfl | rfl <;> rcases R2 with rfl | rfl | rfl
  all_goals
    go_enter Try.func26, Try.ntmps26
    go_wp2_with (first | (go_at_call_of 30 (Value.map (some b1)); refine (majVote b1 n1 ids1 b3 n3 l _ (H1.out.ext (by (repeat (first | with_reducible exact Ext.refl _ | with_reducible assumption | with_reducible apply Ext.alloc | with_reducible apply Ext.drew | with_reducible apply Ext.drewN | (with_reducible refine Ext.trans ?_ (by assumption)) | ((with_reducible refine Ext.set ?_ ?_ _); rotate_left; (focus (first | (simp; done) | omega | (simp; omega)))))))) (H3.out.ext (by (repeat (first | with_reducible exact Ext.refl _ | with_reducible assumption | with_reducible apply Ext.alloc | with_reducible apply Ext.drew | with_reducible apply Ext.drewN | (with_reducible refine Ext.trans ?_ (by assumption)) | ((with_reducible refine Ext.set ?_ ?_ _); rotate_left; (focus (first | (simp; done) | omega | (simp; omega)))))))) hn1).mono ?_; rintro e w1 ⟨rfl, he1⟩; rw [← Q1.out]; obtain ⟨rc1, rf1⟩ := he1.reads; (try have rz1 : w.heap.size < w1.heap.size := (by have := he1.size; (try simp at this); omega)); (try have rn1 : ¬ w.heap.size = w1.heap.size := (by omega)); (try have rm1 : ¬ w1.heap.size = w.heap.size := (by omega)); (try have ry1 : w.heap.size + 1 < w1.heap.size := (by have := he1.size; (try simp at this); omega)); (try have rx1 : w.heap.size + 1 + 1 < w1.heap.size := (by have := he1.size; (try simp at this); omega))) | (go_at_call_of 30 (Value.map (some b2)); refine (majVote b2 n2 ids2 b3 n3 l _ (H2.out.ext (by (repeat (first | with_reducible exact Ext.refl _ | with_reducible assumption | with_reducible apply Ext.alloc | with_reducible apply Ext.drew | with_reducible apply Ext.drewN | (with_reducible refine Ext.trans ?_ (by assumption)) | ((with_reducible refine Ext.set ?_ ?_ _); rotate_left; (focus (first | (simp; done) | omega | (simp; omega)))))))) (H3.out.ext (by (repeat (first | with_reducible exact Ext.refl _ | with_reducible assumption | with_reducible apply Ext.alloc | with_reducible apply Ext.drew | with_reducible apply Ext.drewN | (with_reducible refine Ext.trans ?_ (by assumption)) | ((with_reducible refine Ext.set ?_ ?_ _); rotate_left; (focus (first | (simp; done) | omega | (simp; omega)))))))) hn2).mono ?_; rintro e w2 ⟨rfl, he2⟩; rw [← Q2.out]) | fail)
    refine bodyPost_ret (results_tmp rfl _ _ _) rfl ?_
    exact ⟨by simp [jointN], by (repeat (first | with_reducible exact Ext.refl _ | with_reducible assumption | with_reducible apply Ext.alloc | with_reducible apply Ext.drew | with_reducible apply Ext.drewN | (with_reducible refine Ext.trans ?_ (by assumption)) | ((with_reducible refine Ext.set ?_ ?_ _); rotate_left; (focus (first | (simp; done) | omega | (simp; omega))))))⟩
end Go.Proofs.Ytakighadedgemaa
