/-
  impl.ProgressRun, where no flights are given.
-/
import Derived.Test.YthfdhamencefiaaRows
import Derived.Test.YthfdhamencefiaaBase
import Derived.Test.YthfdhamencefiaaSees
import Derived.Test.YthfdhamencefiaaGuard
import Derived.Test.YthfdhamencefiaaInfl
import Derived.Test.YthfdhamencefiaaInflA
import Derived.Test.YthfdhamencefiaaInflC
import Derived.Test.YthfdhamencefiaaFlight
import Derived.Test.YthfdhamencefiaaFlightB
import Derived.Test.YthfdhamencefiaaFlights
import Derived.Test.YthfdhamencefiaaPgs
import Derived.Test.YthfdhamencefiaaPgsC
import Derived.Test.YthfdhamencefiaaPgsR
import Derived.Test.YthfdhamencefiaaPgsI
set_option linter.unusedVariables false
set_option linter.unusedSimpArgs false
namespace Go.Proofs.Ythfdhamencefiaa
open Go.RowKit

def pgRun (size : Nat) (max : Int) : PgS → List FCall → Option (List (Bool × PgS))
  | _, [] => some []
  | s, c :: r => match pgStep size max s c with
    | none => none
    | some (f, s') => (pgRun size max s' r).map ((f, s') :: ·)
def pgC (size : Nat) (max : Int) (x : Bool × PgS) : List Value := (pgAns size max x.1 x.2).toList
theorem pgC_length (size : Nat) (max : Int) (x : Bool × PgS) : (pgC size max x).length = 12 := rfl
/-- A progress as it is given, without flights. -/
def pgIn (size : Nat) (max : Int) (s : PgS) : Array Value := #[.int .u64 s.mt, .int .u64 s.nx, .int .i64 s.st, .int .u64 s.pend, .bool s.act, .bool s.pau, .bool s.lrn, .int .i64 size, .int .u64 max, .slice none 0 0, .slice none 0 0]

set_option maxRecDepth 100000 in
set_option maxHeartbeats 4000000 in
theorem progressRun_any (size : Nat) (max : Int) (s : PgS) (a : Option Addr) (n c : Nat) (l : List FCall) (all : List (Bool × PgS)) (w : World) (hs : size ≤ 1000) (hm : 0 ≤ max ∧ max < 18446744073709551616) (h : FlatRow w 3 FCall.cells a n c l) (hn : n ≤ 100000)
    (hr : pgRun size max s l = some all) (hL : s.L = []) (hsent : s.sent = 0) (h3 : s.st = 0 ∨ s.st = 1 ∨ s.st = 2) (hrng : inU1 s.mt ∧ inU1 s.nx ∧ inU1 s.pend) :
    Calls Try.prog 21 #[.agg (pgIn size max s), .slice a n c] w fun r w' => ∃ v, r = .returned v ∧ w'.ownsRow w.heap.size 62 12 v (n + 1) (((false, s) :: all).flatMap (pgC size max)) ∧ Ext w w' := by
  have hmf : ∀ (fn : Fn) (first cap : Array Value) (w : World), (Instr.makeFunc fn first cap).run Try.prog w = .ok (.func fn first cap) w := fun _ _ _ _ => rfl
  obtain ⟨i0, hi, hz0, hz1, hz2⟩ := info_parts infoPA
  have hl := h.length
  have X := Lib.hid h
  have HL := Lib.hid hl
  have HR := Lib.hid hr
  have w3 : IntKind.u64.wrap s.st = s.st := by rw [IntKind.wrap_u64]; rcases h3 with e | e | e <;> rw [e] <;> rfl
  have R3 := Lib.hid h3
  have RNG := Lib.hid hrng
  have HLL := Lib.hid hL
  have HSE := Lib.hid hsent
  clear h hl hr h3 hrng hL hsent
  unfold pgIn
  go_enter Try.func21, Try.ntmps21
  go_wp2_with (go_at_call 27; (with_reducible refine (newInflights size max _ hs hm).mono ?_); rintro r w0 ⟨b, rfl, hb0, hi0, he0⟩; have HI0 := Lib.hid hi0; have d0 := (Blk.new w #[.int .u64 s.mt, .int .u64 s.nx, .int .i64 s.st, .int .u64 s.pend, .bool s.act, .bool s.pau, .bool s.lrn, .int .i64 size, .int .u64 max, .slice none 0 0, .slice none 0 0] 49).ext he0; have e0 := d0.cell 0; have e1 := d0.cell 1; have e2 := d0.cell 2; have e3 := d0.cell 3; have e4 := d0.cell 4; have e5 := d0.cell 5; have e6 := d0.cell 6; simp at e0 e1 e2 e3 e4 e5 e6; have hlw : w.heap.size < w0.heap.size := d0.lt; have D0 := Lib.hid d0; clear d0 hi0)
  obtain ⟨W1, hW1⟩ : ∃ W, W = ((((w0.alloc (.cells #[(Value.pointer (some ⟨b, 0, none⟩))] 72)).alloc (.cells #[.int .u64 s.mt, .int .u64 s.nx, .int .u64 0, .int .u64 s.st, .int .u64 s.pend, .bool s.act, .bool s.pau, (Value.pointer (some ⟨b, 0, none⟩)), .bool s.lrn] 84)).alloc (.cells #[.pointer (some ⟨w0.heap.size + 1, 0, none⟩)] 81)).alloc (.cells #[.slice none 0 0] 56)) := ⟨_, rfl⟩
  rw [← hW1]
  have E1 : Ext w0 W1 := by rw [hW1]; (repeat (first | with_reducible exact Ext.refl _ | with_reducible assumption | with_reducible apply Ext.alloc | with_reducible apply Ext.drew | with_reducible apply Ext.drewN | (with_reducible refine Ext.trans ?_ (by assumption)) | ((with_reducible refine Ext.set ?_ ?_ _); rotate_left; (focus (first | (simp; done) | omega | (simp; omega))))))
  have bp : Blk W1 (w0.heap.size + 1) #[.int .u64 s.mt, .int .u64 s.nx, .int .u64 0, .int .u64 s.st, .int .u64 s.pend, .bool s.act, .bool s.pau, (Value.pointer (some ⟨b, 0, none⟩)), .bool s.lrn] 84 := by rw [hW1]; simp [blk_alloc]
  have bpp : Blk W1 (w0.heap.size + 2) #[.pointer (some ⟨w0.heap.size + 1, 0, none⟩)] 81 := by rw [hW1]; simp [blk_alloc]
  have bpo : Blk W1 (w0.heap.size + 3) #[.slice none 0 0] 56 := by rw [hW1]; simp [blk_alloc]
  have bpx := D0.out.ext E1
  clear hW1
  obtain ⟨p, hp⟩ : ∃ p, p = w0.heap.size + 1 := ⟨_, rfl⟩
  obtain ⟨pp, hpp⟩ : ∃ p, p = w0.heap.size + 2 := ⟨_, rfl⟩
  obtain ⟨po, hpo⟩ : ∃ p, p = w0.heap.size + 3 := ⟨_, rfl⟩
  have hbw : w.heap.size ≤ b := by simp at hb0; omega
  have hpw : w.heap.size ≤ p ∧ w.heap.size ≤ pp ∧ w.heap.size ≤ po := by omega
  have hW1s : w.heap.size ≤ W1.heap.size := by have := E1.size; omega
  rw [show w0.heap.size + 1 + 1 + 1 = po by omega, show w0.heap.size + 1 + 1 = pp by omega, ← hp]
  rw [← hp] at bp bpp
  rw [← hpp] at bpp
  rw [← hpo] at bpo
  have hPG : PgP W1 p b (.slice none 0 0) size max s := ⟨by unfold PgS.cells; rw [HSE.out]; exact bp, by rw [HLL.out]; exact HI0.out.ext E1, RNG.out, R3.out⟩
  have G1 := Lib.hid hPG
  have BPP := Lib.hid bpp
  have BPO := Lib.hid bpo
  have BPX := Lib.hid bpx
  have EW : Ext w W1 := (((Ext.refl w).alloc _).trans he0).trans E1
  clear bp bpp bpo bpx hPG hp hpp hpo hb0 he0 e0 e1 e2 e3 e4 e5 e6
  refine (guarded_any 35 _ _ (fun t w1 => t = false ∧ ∃ g cap, w1.ownsRow w.heap.size 62 12 (.slice (some ⟨g, 0, none⟩) 1 cap) 1 ([(false, s)].flatMap (pgC size max)) ∧ Blk w1 po #[.slice (some ⟨g, 0, none⟩) 1 cap] 56 ∧ Chg (fun k => k = po) W1 w1) (fun W => by simp [go_sem]) ?_).mono ?_
  · refine (runInit w.heap.size w0.heap.size po pp p b _ size max s _ _ (G1.out.ext ((Ext.refl _).alloc _)) (BPX.out.alloc _) rfl (BPO.out.alloc _) (BPP.out.alloc _)).mono ?_
    rintro e w2 ⟨rfl, g, cap, ho, hb2, hc⟩
    refine ⟨(Blk.new W1 _ _).chg hc (fun e => by have := BPO.out.lt; omega), .inl ⟨_, rfl, rfl, g, cap, ?_, hb2, ?_⟩⟩
    · rw [List.flatMap_singleton]
      exact ⟨ho.1, ho.2.imp id fun ⟨g', cap', cur, q1, q2, q3⟩ => ⟨g', cap', cur, q1, by simp at q2; omega, q3⟩⟩
    · exact ((Chg.refl (fun k => k = po) W1).alloc _).trans hc
  rintro e w1 ⟨t, rfl, rfl, g, cap, ho1, hb1, hc1⟩
  have hw1s : w.heap.size ≤ w1.heap.size := Nat.le_trans hW1s hc1.size
  have hP1 : PgP w1 p b (.slice none 0 0) size max s := G1.out.chg hc1 (fun k hk => by subst hk; exact G1.out.off BPO.out (by decide) (by decide) (by decide))
  have hq : pp ≠ po := fun e => by have := BPP.out; rw [e] at this; exact this.ne BPO.out (by decide) rfl
  have hpp1 : Blk w1 pp #[(Value.pointer (some ⟨p, 0, none⟩))] 81 := BPP.out.chg hc1 hq
  have EW1 : Ext w w1 := ((Chg.of_ext (F := fun k => k = po) EW).trans hc1).ext (fun k hk e => by omega)
  have P1 := Lib.hid hP1
  have PP1 := Lib.hid hpp1
  have PO1 := Lib.hid hb1
  have O1 := Lib.hid ho1
  clear hP1 hpp1 hb1 ho1 hc1
  go_wp2_with fail
  go_loopw [40] (fun i wr => ∃ (k : Nat) (outs rest : List (Bool × PgS)) (sk : PgS) (v : Value) (ad : Option Addr) (cp : Nat), k ≤ n ∧ i = .int .i64 k ∧ all = outs ++ rest ∧ outs.length = k ∧ pgRun size max sk (l.drop k) = some rest ∧ PgP wr p b v size max sk ∧ (∀ g, v.ownBlock = some g → w.heap.size ≤ g) ∧ Blk wr pp #[(Value.pointer (some ⟨p, 0, none⟩))] 81 ∧ Blk wr po #[.slice ad (k + 1) cp] 56 ∧ wr.ownsRow w.heap.size 62 12 (.slice ad (k + 1) cp) (k + 1) (((false, s) :: outs).flatMap (pgC size max)) ∧ Ext w wr) (fun i _ => n - (intOf i).toNat)
  case atStart => exact ⟨0, [], all, s, _, _, _, Nat.zero_le _, rfl, rfl, rfl, HR.out, P1.out, (fun g hg => by cases hg), PP1.out, PO1.out, O1.out, EW1⟩
  case round =>
    obtain ⟨k, outs, rest, sk, v, ad, cp, hk, rfl, hall, hol, hrun, hpg, hv, hpp2, hpo2, hown, hext⟩ := hrel
    by_cases hlt : k < n
    · obtain ⟨⟨kd, A, B⟩, hy⟩ := get_of_lt l (k := k) (by rw [HL.out]; exact hlt)
      obtain ⟨ab, off, rfl, hc⟩ := X.out.at_ k _ hy
      have c0 : wr.cell? ⟨ab, off + k * 3, none⟩ = some (.int .i64 kd) := by
        have := hc 0 _ rfl
        rw [Nat.add_zero] at this
        rw [Below.cell hext (World.block_lt_of_cell? w _ this)]; exact this
      have c1 : wr.cell? ⟨ab, off + k * 3 + 1, none⟩ = some (.int .u64 A) := by rw [Below.cell hext (World.block_lt_of_cell? w _ (hc 1 _ rfl))]; exact hc 1 _ rfl
      have c2 : wr.cell? ⟨ab, off + k * 3 + 2, none⟩ = some (.int .u64 B) := by rw [Below.cell hext (World.block_lt_of_cell? w _ (hc 2 _ rfl))]; exact hc 2 _ rfl
      obtain ⟨f, s', rest', hst, rfl, hrun'⟩ : ∃ f s' rest', pgStep size max sk ⟨kd, A, B⟩ = some (f, s') ∧ rest = (f, s') :: rest' ∧ pgRun size max s' (l.drop (k + 1)) = some rest' := by
        rw [drop_of hy, pgRun] at hrun
        cases hps : pgStep size max sk ⟨kd, A, B⟩ with
        | none => rw [hps] at hrun; cases hrun
        | some fs =>
          obtain ⟨f, s'⟩ := fs
          rw [hps] at hrun
          simp only at hrun
          cases hpr : pgRun size max s' (l.drop (k + 1)) with
          | none => rw [hpr] at hrun; cases hrun
          | some rr =>
            rw [hpr] at hrun
            simp at hrun
            exact ⟨f, s', rr, rfl, hrun.symm, hpr⟩
      have ST := Lib.hid hst
      have RUN := Lib.hid hrun'
      have ALL := Lib.hid (And.intro hall hol)
      have PG := Lib.hid hpg
      have PPB := Lib.hid hpp2
      have POB := Lib.hid hpo2
      have OWN := Lib.hid hown
      have HV := Lib.hid hv
      clear hc hy hrun hst hrun' hall hol hpg hpp2 hpo2 hown hv
      go_wp2_with fail
      refine (guarded_any 38 _ _ (fun t w2 => t = false ∧ ∃ v', PgP w2 p b v' size max s' ∧ FreshV wr v v' ∧ Blk w2 (wr.heap.size + 1) (pgAns size max f s') 62 ∧ Chg (PgF p b v) wr w2) (fun W => by simp [go_sem]) ?_).mono ?_
      · obtain ⟨W2, hW2⟩ : ∃ W, W = (((wr.alloc (.cells #[.int .i64 kd, .int .u64 A, .int .u64 B] 60)).alloc (.cells pgZero 62)).alloc (.cells #[.bool false] 4)) := ⟨_, rfl⟩
        have q0 : Blk W2 wr.heap.size #[.int .i64 kd, .int .u64 A, .int .u64 B] 60 := by rw [hW2]; simp [blk_alloc]
        have q1 : Blk W2 (wr.heap.size + 1) pgZero 62 := by rw [hW2]; simp [blk_alloc]
        have q2 : Blk W2 (wr.heap.size + 1 + 1) #[.bool false] 4 := by rw [hW2]; simp [blk_alloc]
        have qe : Ext wr W2 := by rw [hW2]; (repeat (first | with_reducible exact Ext.refl _ | with_reducible assumption | with_reducible apply Ext.alloc | with_reducible apply Ext.drew | with_reducible apply Ext.drewN | (with_reducible refine Ext.trans ?_ (by assumption)) | ((with_reducible refine Ext.set ?_ ?_ _); rotate_left; (focus (first | (simp; done) | omega | (simp; omega))))))
        have q3 := PG.out.ext qe
        show Calls Try.prog 38 _ ((((wr.alloc (.cells #[.int .i64 kd, .int .u64 A, .int .u64 B] 60)).alloc (.cells pgZero 62)).alloc (.cells #[.bool false] 4))) _
        rw [← hW2]
        refine (runCall pp wr.heap.size (wr.heap.size + 1) p b v size max sk ⟨kd, A, B⟩ f s' ST.out W2 q3 (PPB.out.ext qe) q0 q1).mono ?_
        rintro e w2 ⟨rfl, v', hp2, hf2, hb2, hc2⟩
        have nb := q3.off q2 (by decide) (by decide) (by decide)
        refine ⟨by simpa using q2.chg hc2 (by rintro (e | e); omega; exact nb e), .inl ⟨_, rfl, rfl, v', hp2, fun g hg => (hf2 g hg).imp id (fun h => Nat.le_trans qe.size h), hb2, ?_⟩⟩
        have e1 : Chg (fun k => k = wr.heap.size + 1 ∨ PgF p b v k) wr w2 := (Chg.of_ext qe).trans hc2
        exact e1.mono (fun k hk hF => by rcases hF with e | e; omega; exact e)
      rintro e w2 ⟨t, rfl, rfl, v', hp2, hf2, hb2, hc2⟩
      have hpo3 := POB.out.chg hc2 (PG.out.off POB.out (by decide) (by decide) (by decide))
      have hpp3 := PPB.out.chg hc2 (PG.out.off PPB.out (by decide) (by decide) (by decide))
      have hown3 := owns_chg OWN.out hc2 (fun g cur hg => PG.out.off hg (by decide) (by decide) (by decide))
      have E2 : Ext w w2 := ((Chg.of_ext (F := PgF p b v) hext).trans hc2).ext (fun k hk hF => by
        rcases hF with e | e | e
        · omega
        · omega
        · have := HV.out k e; omega)
      have d0 := hpo3.cell 0
      have z0 := hpo3.free 0
      simp at d0
      have A0 := hb2.cell 0
      have A1 := hb2.cell 1
      have A2 := hb2.cell 2
      have A3 := hb2.cell 3
      have A4 := hb2.cell 4
      have A5 := hb2.cell 5
      have A6 := hb2.cell 6
      have A7 := hb2.cell 7
      have A8 := hb2.cell 8
      have A9 := hb2.cell 9
      have A10 := hb2.cell 10
      have A11 := hb2.cell 11
      simp [pgAns] at A0 A1 A2 A3 A4 A5 A6 A7 A8 A9 A10 A11
      have P2 := Lib.hid hp2
      have F2 := Lib.hid hf2
      have PO3 := Lib.hid hpo3
      have PP3 := Lib.hid hpp3
      have O3 := Lib.hid hown3
      have hnp : (Value.slice ad (k + 1) cp).ownBlock ≠ some po := fun h => by
        obtain ⟨cur, hb⟩ := owns_blk hown3 h
        exact hpo3.ne hb (by decide) rfl
      have NP := Lib.hid hnp
      have OA := Lib.hid (hown3.alloc (.cells (pgAns size max f s') 62))
      have PA := Lib.hid (hpo3.alloc (.cells (pgAns size max f s') 62))
      clear hp2 hf2 hb2 hc2 hpo3 hpp3 hown3 hnp
      go_wp2_with (first | (at_builtin; refine wpList_append_own _ rfl _ _ 56 rfl w.heap.size 62 i0 _ 12 64 Try.underlying56 hi hz0 hz1 hz2 rfl (by decide) _ _ _ rfl OA.out ⟨w2.heap.size, 0, none⟩ 1 1 (pgC size max (f, s')) rfl rfl (pgAns_news _ _ _ _ _ rfl) (pgAns_one _ _ _ _) (by unfold maxLen; omega) (by omega) (by simp; have := E2.size; omega) ?_; intro v3 w3 hown4 hgrow4 _; have b5 := Blk.grown PA.out hgrow4 NP.out; have z5 := b5.cell 0; have z6 := b5.free 0; simp at z5; obtain ⟨ad4, cp4, rfl⟩ := ownsRow_shape hown4; have PO4 := Lib.hid b5; have O4 := Lib.hid hown4; have G4 := Lib.hid hgrow4; clear b5 hown4 hgrow4) | fail)
      have g3 : Chg (fun j => (Value.slice ad (k + 1) cp).ownBlock = some j) w2 w3 := Chg.of_grown ((Ext.refl w2).alloc _) G4.out
      have p3 : PgP w3 p b v' size max s' := P2.out.chg g3 (fun j hj => by obtain ⟨cur, hb⟩ := owns_blk O3.out hj; exact P2.out.off hb (by decide) (by decide) (by decide))
      have pp3 : Blk w3 pp #[(Value.pointer (some ⟨p, 0, none⟩))] 81 := PP3.out.chg g3 (fun hj => by obtain ⟨cur, hb⟩ := owns_blk O3.out hj; exact PP3.out.ne hb (by decide) rfl)
      have E3 : Ext w w3 := Ext.grown (E2.alloc _) G4.out (fun j hj => (O3.out.lt j hj).1)
      have hS : Chg (fun j => j = po) w3 (w3.setCell ⟨po, 0, none⟩ (.slice ad4 (k + 1 + 1) cp4)) := (Chg.refl (fun j => j = po) w3).set (p := ⟨po, 0, none⟩) (.inl rfl) _
      go_roundw
      case rel =>
        refine ⟨k + 1, outs ++ [(f, s')], rest', s', v', ad4, cp4, by omega, by go_num, by rw [ALL.out.1]; simp, by rw [List.length_append, ALL.out.2]; rfl, RUN.out, p3.chg hS (fun j hj => by subst hj; exact p3.off PO4.out (by decide) (by decide) (by decide)), ?_, pp3.chg hS (fun e => by rw [e] at pp3; exact pp3.ne PO4.out (by decide) rfl), PO4.out.set 0 _, ?_, ?_⟩
        · intro g hg
          rcases F2.out g hg with h | h
          · exact HV.out g h
          · have := hext.size; omega
        · rw [show (false, s) :: (outs ++ [(f, s')]) = ((false, s) :: outs) ++ [(f, s')] from rfl, List.flatMap_append, List.flatMap_singleton]
          exact owns_chg O4.out hS (fun g cur hg e => by subst e; exact hg.ne PO4.out (by decide) rfl)
        · exact E3.set (p := ⟨po, 0, none⟩) (by show w.heap.size ≤ po; omega) _
      case measure => simp [intOf]; omega
    · obtain rfl : k = n := by omega
      rw [List.drop_eq_nil_of_le (by rw [HL.out]; omega), pgRun] at hrun
      simp at hrun
      subst hrun
      rw [List.append_nil] at hall
      subst hall
      have d0 := hpo2.cell 0
      simp at d0
      have O5 := Lib.hid hown
      clear hown hpo2
      go_wp2
      refine bodyPost_ret (results_tmp rfl _ _ _) rfl ?_
      exact ⟨_, rfl, O5.out, hext⟩
end Go.Proofs.Ythfdhamencefiaa
