/-
  impl's results of votes.
-/
import Derived.Test.YtakighadedgemaaRows
import Derived.Test.YtakighadedgemaaBase
import Derived.Test.YtakighadedgemaaSees
import Derived.Test.YtakighadedgemaaVoteP
import Derived.Test.YtakighadedgemaaVoteM
import Derived.Test.YtakighadedgemaaVoteJ
import Derived.Deep.RegionWith
set_option linter.unusedVariables false
set_option linter.unusedSimpArgs false
namespace Go.Proofs.Ytakighadedgemaa
open Go.RowKit Go.Maps

set_option maxHeartbeats 1000000 in
theorem implVote (a1 : Option Addr) (n1 c1 : Nat) (ids : List Int) (a2 : Option Addr) (n2 c2 : Nat) (l : List (Int × Bool)) (w : World) (h1 : FlatRow w 1 u64C a1 n1 c1 ids) (h2 : FlatRow w 2 Bal.cells a2 n2 c2 l) (k1 : inU ids) (k2 : inB l) (e1 : n1 ≤ 2147483647) (e2 : n2 ≤ 2147483647) :
    Calls Try.prog 14 #[.slice a1 n1 c1, .slice a2 n2 c2] w fun r w' => r = .returned (.int .i64 (majR ids l)) ∧ Ext w w' := by
  have H1 := Lib.hid h1
  have H2 := Lib.hid h2
  have K1 := Lib.hid k1
  have K2 := Lib.hid k2
  have hl : ids.length ≤ 2147483647 := by rw [h1.length]; exact e1
  have R1 := majR_rng ids l
  obtain ⟨r1, hr1⟩ : ∃ r, r = majR ids l := ⟨_, rfl⟩
  rw [← hr1]
  rw [← hr1] at R1
  have Q1 := Lib.hid hr1
  clear h1 h2 k1 k2 hr1
  have R : 0 ≤ r1 ∧ r1 ≤ 3 := by omega
  obtain ⟨R0, R3⟩ := R
  clear R1
  go_enter Try.func14, Try.ntmps14
  go_wp2_with (first | (go_at_call 25; refine (voters_any a1 n1 c1 ids _ (H1.out.ext (by (repeat (first | with_reducible exact Ext.refl _ | with_reducible assumption | with_reducible apply Ext.alloc | with_reducible apply Ext.drew | with_reducible apply Ext.drewN | (with_reducible refine Ext.trans ?_ (by assumption)) | ((with_reducible refine Ext.set ?_ ?_ _); rotate_left; (focus (first | (simp; done) | omega | (simp; omega)))))))) K1.out e1).mono ?_; rintro e w1 ⟨rfl, hs1, he1⟩; have S1 := Lib.hid hs1; clear hs1) | (go_at_call 27; refine (ballots_any a2 n2 c2 l _ (H2.out.ext (by (repeat (first | with_reducible exact Ext.refl _ | with_reducible assumption | with_reducible apply Ext.alloc | with_reducible apply Ext.drew | with_reducible apply Ext.drewN | (with_reducible refine Ext.trans ?_ (by assumption)) | ((with_reducible refine Ext.set ?_ ?_ _); rotate_left; (focus (first | (simp; done) | omega | (simp; omega)))))))) K2.out e2).mono ?_; rintro e w2 ⟨rfl, hs2, he2⟩; have S2 := Lib.hid hs2; clear hs2) | (go_at_call 30; refine (majVote _ n1 ids _ n2 l _ (S1.out.ext (by (repeat (first | with_reducible exact Ext.refl _ | with_reducible assumption | with_reducible apply Ext.alloc | with_reducible apply Ext.drew | with_reducible apply Ext.drewN | (with_reducible refine Ext.trans ?_ (by assumption)) | ((with_reducible refine Ext.set ?_ ?_ _); rotate_left; (focus (first | (simp; done) | omega | (simp; omega)))))))) (S2.out.ext (by (repeat (first | with_reducible exact Ext.refl _ | with_reducible assumption | with_reducible apply Ext.alloc | with_reducible apply Ext.drew | with_reducible apply Ext.drewN | (with_reducible refine Ext.trans ?_ (by assumption)) | ((with_reducible refine Ext.set ?_ ?_ _); rotate_left; (focus (first | (simp; done) | omega | (simp; omega)))))))) hl).mono ?_; rintro e w3 ⟨rfl, he3⟩; rw [← Q1.out]) | fail)
  refine bodyPost_ret (results_tmp rfl _ _ _) rfl ?_
  exact ⟨rfl, by (repeat (first | with_reducible exact Ext.refl _ | with_reducible assumption | with_reducible apply Ext.alloc | with_reducible apply Ext.drew | with_reducible apply Ext.drewN | (with_reducible refine Ext.trans ?_ (by assumption)) | ((with_reducible refine Ext.set ?_ ?_ _); rotate_left; (focus (first | (simp; done) | omega | (simp; omega))))))⟩

set_option maxHeartbeats 1000000 in
theorem implJoint (a1 : Option Addr) (n1 c1 : Nat) (ids1 : List Int) (a3 : Option Addr) (n3 c3 : Nat) (ids2 : List Int) (a2 : Option Addr) (n2 c2 : Nat) (l : List (Int × Bool)) (w : World) (h1 : FlatRow w 1 u64C a1 n1 c1 ids1) (h3 : FlatRow w 1 u64C a3 n3 c3 ids2) (h2 : FlatRow w 2 Bal.cells a2 n2 c2 l) (k1 : inU ids1) (k3 : inU ids2) (k2 : inB l)
    (e1 : n1 ≤ 2147483647) (e3 : n3 ≤ 2147483647) (e2 : n2 ≤ 2147483647) :
    Calls Try.prog 10 #[.slice a1 n1 c1, .slice a3 n3 c3, .slice a2 n2 c2] w fun r w' => r = .returned (.int .i64 (jointN (majR ids1 l) (majR ids2 l))) ∧ Ext w w' := by
  have H1 := Lib.hid h1
  have H2 := Lib.hid h2
  have H3 := Lib.hid h3
  have K1 := Lib.hid k1
  have K2 := Lib.hid k2
  have K3 := Lib.hid k3
  have hl1 : ids1.length ≤ 2147483647 := by rw [h1.length]; exact e1
  have hl3 : ids2.length ≤ 2147483647 := by rw [h3.length]; exact e3
  have R1 := majR_rng ids1 l
  have R2 := majR_rng ids2 l
  have R : 0 ≤ jointN (majR ids1 l) (majR ids2 l) ∧ jointN (majR ids1 l) (majR ids2 l) ≤ 3 := by unfold jointN; split <;> (try split) <;> omega
  obtain ⟨r1, hr1⟩ : ∃ r, r = jointN (majR ids1 l) (majR ids2 l) := ⟨_, rfl⟩
  rw [← hr1]
  rw [← hr1] at R
  have Q1 := Lib.hid hr1
  clear h1 h2 h3 k1 k2 k3 hr1 R1 R2
  obtain ⟨R0, R3⟩ := R
  go_enter Try.func10, Try.ntmps10
  go_wp2_with (first | (go_at_call_of 25 (Value.slice a1 n1 c1); refine (voters_any a1 n1 c1 ids1 _ H1.out K1.out e1).mono ?_; rintro e w1 ⟨rfl, hs1, he1⟩; have S1 := Lib.hid hs1; clear hs1) | (go_at_call_of 25 (Value.slice a3 n3 c3); refine (voters_any a3 n3 c3 ids2 _ (H3.out.ext he1) K3.out e3).mono ?_; rintro e w3 ⟨rfl, hs3, he3⟩; have S3 := Lib.hid hs3; have S4 := Lib.hid (S1.out.ext he3); clear hs3) | (go_at_call 27; refine (ballots_any a2 n2 c2 l _ (H2.out.ext (he1.trans he3)) K2.out e2).mono ?_; rintro e w2 ⟨rfl, hs2, he2⟩; have S2 := Lib.hid hs2; have S5 := Lib.hid (S4.out.ext he2); have S6 := Lib.hid (S3.out.ext he2); clear hs2) | (go_at_call 26; refine (jointVote _ n1 ids1 _ n3 ids2 _ n2 l _ S5.out S6.out S2.out hl1 hl3).mono ?_; rintro e w4 ⟨rfl, he4⟩; rw [← Q1.out]) | fail)
  refine bodyPost_ret (results_tmp rfl _ _ _) rfl ?_
  exact ⟨rfl, by (repeat (first | with_reducible exact Ext.refl _ | with_reducible assumption | with_reducible apply Ext.alloc | with_reducible apply Ext.drew | with_reducible apply Ext.drewN | (with_reducible refine Ext.trans ?_ (by assumption)) | ((with_reducible refine Ext.set ?_ ?_ _); rotate_left; (focus (first | (simp; done) | omega | (simp; omega))))))⟩

/-! spec's words. -/
def ballN (l : List (Int × Bool)) (x : Int) : Int := if isYes l x = true then 1 else if isOpen l x = true then 0 else -1

set_option maxHeartbeats 1000000 in
theorem specVote (x : Int) (a : Option Addr) (n c : Nat) (l : List (Int × Bool)) (w : World) (h : FlatRow w 2 Bal.cells a n c l) (hn : n ≤ 2147483647) :
    Calls Try.prog 39 #[.int .u64 x, .slice a n c] w fun r w' => r = .returned (.int .i64 (ballN l x)) ∧ Ext w w' := by
  have hl := h.length
  have X := Lib.hid h
  have HL := Lib.hid hl
  clear h hl
  go_enter Try.func39, Try.ntmps39
  go_wp2
  go_loopw [5, 10] (fun v i wr => ∃ (k : Nat), k ≤ n ∧ i = .int .i64 k ∧ v = .int .i64 (ballN (l.take k) x) ∧ Ext w wr) (fun _ i _ => n - (intOf i).toNat)
  case atStart => exact ⟨0, Nat.zero_le _, rfl, rfl, Ext.refl _⟩
  case round =>
    obtain ⟨k, hk, rfl, rfl, hext⟩ := hrel
    by_cases hlt : k < n
    · obtain ⟨⟨y, v⟩, hy⟩ := get_of_lt l (k := k) (by rw [HL.out]; exact hlt)
      obtain ⟨ab, off, rfl, hc⟩ := X.out.at_ k _ hy
      have c0 : wr.cell? ⟨ab, off + k * 2, none⟩ = some (.int .u64 y) := by
        have := hc 0 _ rfl
        rw [Nat.add_zero] at this
        rw [Below.cell hext (World.block_lt_of_cell? w _ this)]; exact this
      have c1 : wr.cell? ⟨ab, off + k * 2 + 1, none⟩ = some (.bool v) := by
        have := hc 1 _ rfl
        rw [Below.cell hext (World.block_lt_of_cell? w _ this)]; exact this
      have hv : voteOf x (l.take (k + 1)) = voteStep x (voteOf x (l.take k)) (y, v) := by rw [take_succ_of hy]; simp [voteOf, List.foldl_append]
      have HV := Lib.hid hv
      clear hc hy hv
      by_cases hxy : y = x
      · subst hxy
        cases v
        · have e1 : ballN (l.take (k + 1)) y = -1 := by unfold ballN isYes isOpen; rw [HV.out]; simp [voteStep]
          have E1 := Lib.hid e1
          clear e1
          go_wp2
          go_roundw
          case rel => exact ⟨k + 1, by omega, by go_num, by rw [E1.out], hext.alloc _⟩
          case measure => simp [intOf]; omega
        · have e1 : ballN (l.take (k + 1)) y = 1 := by unfold ballN isYes isOpen; rw [HV.out]; simp [voteStep]
          have E1 := Lib.hid e1
          clear e1
          go_wp2
          go_roundw
          case rel => exact ⟨k + 1, by omega, by go_num, by rw [E1.out], hext.alloc _⟩
          case measure => simp [intOf]; omega
      · obtain ⟨cur, hcur⟩ : ∃ cur, cur = ballN (l.take k) x := ⟨_, rfl⟩
        have e1 : ballN (l.take (k + 1)) x = cur := by unfold ballN at hcur; unfold ballN; unfold isYes isOpen; rw [HV.out, hcur]; simp only [voteStep, if_neg hxy]; rfl
        have E1 := Lib.hid e1
        rw [← hcur]
        clear e1 hcur
        go_wp2
        go_roundw
        case rel => exact ⟨k + 1, by omega, by go_num, by rw [E1.out], hext.alloc _⟩
        case measure => simp [intOf]; omega
    · obtain rfl : k = n := by omega
      rw [List.take_of_length_le (by rw [HL.out]; omega)]
      go_wp2
      refine bodyPost_ret (results_tmp rfl _ _ _) rfl ?_
      exact ⟨rfl, hext⟩
end Go.Proofs.Ytakighadedgemaa
