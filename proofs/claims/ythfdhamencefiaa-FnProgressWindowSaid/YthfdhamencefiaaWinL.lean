/-
  FnProgressWindow's own walk.
-/
import Derived.Test.YthfdhamencefiaaRows
import Derived.Test.YthfdhamencefiaaBase
import Derived.Test.YthfdhamencefiaaSees
import Derived.Test.YthfdhamencefiaaInfl
import Derived.Test.YthfdhamencefiaaInflC
import Derived.Test.YthfdhamencefiaaFlight
import Derived.Test.YthfdhamencefiaaFlightB
import Derived.Test.YthfdhamencefiaaFlights
import Derived.Test.YthfdhamencefiaaFrom
import Derived.Test.YthfdhamencefiaaPgs
import Derived.Test.YthfdhamencefiaaPgsC
import Derived.Test.YthfdhamencefiaaPgsI
import Derived.Test.YthfdhamencefiaaPgsX
import Derived.Test.YthfdhamencefiaaWinP
import Derived.Deep.QuietTactic
import Derived.BigQuiet
import Derived.IntWalk
set_option linter.unusedVariables false
set_option linter.unusedSimpArgs false
namespace Go.Proofs.Ythfdhamencefiaa
open Go.RowKit

theorem infoPC : (Try.prog.info? 60).map (fun i => (i.zero, i.size, i.bytes)) = some (some (.agg #[.int .i64 0, .int .u64 0, .int .u64 0]), 3, 24) := by kernel_rfl
theorem FCall.length3 (c : FCall) : c.cells.length = 3 := rfl
theorem fcall_one3 (c : FCall) : ∀ u, u ∈ c.cells → u.oneCell' = true := by simp [FCall.cells, Value.oneCell']

theorem FlatRow.addr {α : Type} {w : World} {n : Nat} {cells : α → List Value} {a : Option Addr} {len cap : Nat} {l : List α} (h : FlatRow w n cells a len cap l) {i : Nat} {x : α} (hx : l[i]? = some x) : ∃ b off, a = some ⟨b, off, none⟩ := by
  obtain ⟨b, off, ha, -⟩ := h.at_ i x hx
  exact ⟨b, off, ha⟩
theorem pgCellsAt {W : World} {size : Nat} {max : Int} {g off len cap : Nat} {l : List (Bool × PgS)} (h : FlatRow W 12 (pgC size max) (some ⟨g, off, none⟩) len cap l) {i : Nat} {f : Bool} {s : PgS} (hi : l[i]? = some (f, s)) :
    W.cell? ⟨g, off + i * 12, none⟩ = some (.bool f) ∧ W.cell? ⟨g, off + i * 12 + 1, none⟩ = some (.int .u64 s.mt) ∧ W.cell? ⟨g, off + i * 12 + 2, none⟩ = some (.int .u64 s.nx) ∧ W.cell? ⟨g, off + i * 12 + 3, none⟩ = some (.int .i64 s.st) ∧ W.cell? ⟨g, off + i * 12 + 4, none⟩ = some (.int .u64 s.pend) ∧ W.cell? ⟨g, off + i * 12 + 5, none⟩ = some (.bool s.act) ∧
    W.cell? ⟨g, off + i * 12 + 6, none⟩ = some (.bool s.pau) ∧ W.cell? ⟨g, off + i * 12 + 7, none⟩ = some (.bool s.lrn) ∧ W.cell? ⟨g, off + i * 12 + 8, none⟩ = some (.int .i64 s.L.length) ∧ W.cell? ⟨g, off + i * 12 + 9, none⟩ = some (.bool (fullB size max s.L)) ∧ W.cell? ⟨g, off + i * 12 + 10, none⟩ = some (.bool s.paused) ∧ W.cell? ⟨g, off + i * 12 + 11, none⟩ = some (.bool false) := by
  obtain ⟨b, o, ha, hc⟩ := h.at_ i _ hi
  simp at ha
  obtain ⟨rfl, rfl⟩ := ha
  exact ⟨hc 0 (.bool f) rfl, hc 1 (.int .u64 s.mt) rfl, hc 2 (.int .u64 s.nx) rfl, hc 3 (.int .i64 s.st) rfl, hc 4 (.int .u64 s.pend) rfl, hc 5 (.bool s.act) rfl, hc 6 (.bool s.pau) rfl, hc 7 (.bool s.lrn) rfl, hc 8 (.int .i64 s.L.length) rfl, hc 9 (.bool (fullB size max s.L)) rfl, hc 10 (.bool s.paused) rfl, hc 11 (.bool false) rfl⟩
theorem sends_vals (size : Nat) (m : Int) (i : Nat) (h : 1 ≤ i) : (sends size (win0 m) i).nx = m + 1 + i ∧ (sends size (win0 m) i).L.length = i ∧ (sends size (win0 m) i).paused = decide (i = size) := by
  refine ⟨rfl, by unfold sends win0; simp, ?_⟩
  unfold PgS.paused sends win0
  simp only
  rw [if_neg (by decide), if_neg (by omega)]
  simp
theorem end_vals (size k : Nat) (m : Int) (hk : 1 ≤ k ∧ k ≤ size) : (sends size (winF m size k) k).nx = m + 1 + size + k ∧ (sends size (winF m size k) k).L.length = size ∧ (sends size (winF m size k) k).paused = true ∧ (sends size (winF m size k) k).pau = true := by
  have hl := winF_len m size k hk.2
  have hp : (sends size (winF m size k) k).pau = true := by
    show (if k = 0 then (winF m size k).pau else decide ((winF m size k).L.length + k = size)) = true
    rw [if_neg (by omega), hl]
    simp
    omega
  refine ⟨rfl, ?_, ?_, hp⟩
  · show ((winF m size k).L ++ (List.range k).map _).length = size
    rw [List.length_append, hl]
    simp
    omega
  · unfold PgS.paused
    rw [if_neg (by show ¬ (1 : Int) = 2; decide)]
    exact hp

theorem winEnd {W : World} {g off len cap k j N : Nat} {m : Int} {all : List (Bool × PgS)} (h : FlatRow W 12 (pgC k 0) (some ⟨g, off, none⟩) len cap ((false, win0 m) :: all)) (hk : 1 ≤ j ∧ j ≤ k) (hN : N = k + 2 + j) (hD : all[k + 1 + j]? = some (false, sends k (winF m k j) j)) :
    ∃ fb, W.cell? ⟨g, off + N * 12, none⟩ = some (.bool false) ∧ W.cell? ⟨g, off + N * 12 + 1, none⟩ = some (.int .u64 (m + j)) ∧ W.cell? ⟨g, off + N * 12 + 2, none⟩ = some (.int .u64 (m + 1 + k + j)) ∧ W.cell? ⟨g, off + N * 12 + 3, none⟩ = some (.int .i64 1) ∧ W.cell? ⟨g, off + N * 12 + 4, none⟩ = some (.int .u64 0) ∧ W.cell? ⟨g, off + N * 12 + 5, none⟩ = some (.bool false) ∧
    W.cell? ⟨g, off + N * 12 + 6, none⟩ = some (.bool true) ∧ W.cell? ⟨g, off + N * 12 + 7, none⟩ = some (.bool false) ∧ W.cell? ⟨g, off + N * 12 + 8, none⟩ = some (.int .i64 k) ∧ W.cell? ⟨g, off + N * 12 + 9, none⟩ = some (.bool fb) ∧ W.cell? ⟨g, off + N * 12 + 10, none⟩ = some (.bool true) ∧ W.cell? ⟨g, off + N * 12 + 11, none⟩ = some (.bool false) := by
  have hr : ((false, win0 m) :: all)[N]? = some (false, sends k (winF m k j) j) := by
    rw [hN, show k + 2 + j = (k + 1 + j) + 1 by omega, List.getElem?_cons_succ]
    exact hD
  obtain ⟨q0, q1, q2, q3, q4, q5, q6, q7, q8, q9, q10, q11⟩ := pgCellsAt h hr
  obtain ⟨e1, e2, e3, e4⟩ := end_vals k j m hk
  rw [e1] at q2
  rw [e2] at q8
  rw [e3] at q10
  rw [e4] at q6
  exact ⟨_, q0, q1, q2, q3, q4, q5, q6, q7, q8, q9, q10, q11⟩
theorem winFree {W : World} {g off len cap k j : Nat} {m : Int} {all : List (Bool × PgS)} (h : FlatRow W 12 (pgC k 0) (some ⟨g, off, none⟩) len cap ((false, win0 m) :: all)) (hk : 1 ≤ j ∧ j ≤ k) (hC : all[k + 1]? = some (false, winF m k j)) :
    ∃ fb, W.cell? ⟨g, off + (k + 2) * 12, none⟩ = some (.bool false) ∧ W.cell? ⟨g, off + (k + 2) * 12 + 1, none⟩ = some (.int .u64 (m + j)) ∧ W.cell? ⟨g, off + (k + 2) * 12 + 2, none⟩ = some (.int .u64 (m + 1 + k)) ∧ W.cell? ⟨g, off + (k + 2) * 12 + 3, none⟩ = some (.int .i64 1) ∧ W.cell? ⟨g, off + (k + 2) * 12 + 4, none⟩ = some (.int .u64 0) ∧ W.cell? ⟨g, off + (k + 2) * 12 + 5, none⟩ = some (.bool false) ∧
    W.cell? ⟨g, off + (k + 2) * 12 + 6, none⟩ = some (.bool false) ∧ W.cell? ⟨g, off + (k + 2) * 12 + 7, none⟩ = some (.bool false) ∧ W.cell? ⟨g, off + (k + 2) * 12 + 8, none⟩ = some (.int .i64 ((k : Int) - j)) ∧ W.cell? ⟨g, off + (k + 2) * 12 + 9, none⟩ = some (.bool fb) ∧ W.cell? ⟨g, off + (k + 2) * 12 + 10, none⟩ = some (.bool false) ∧ W.cell? ⟨g, off + (k + 2) * 12 + 11, none⟩ = some (.bool false) := by
  have hr : ((false, win0 m) :: all)[k + 2]? = some (false, winF m k j) := by
    rw [show k + 2 = (k + 1) + 1 by omega, List.getElem?_cons_succ]
    exact hC
  obtain ⟨q0, q1, q2, q3, q4, q5, q6, q7, q8, q9, q10, q11⟩ := pgCellsAt h hr
  rw [winF_len m k j hk.2, Int.ofNat_sub hk.2] at q8
  exact ⟨_, q0, q1, q2, q3, q4, q5, q6, q7, q8, q9, q10, q11⟩
theorem winUpd {W : World} {g off len cap k j : Nat} {m : Int} {all : List (Bool × PgS)} (h : FlatRow W 12 (pgC k 0) (some ⟨g, off, none⟩) len cap ((false, win0 m) :: all)) (hB : all[k]? = some (true, winU m k j)) : W.cell? ⟨g, off + (k + 1) * 12, none⟩ = some (.bool true) :=
  (pgCellsAt h (i := k + 1) (by rw [List.getElem?_cons_succ]; exact hB)).1
theorem winFirst {W : World} {g off len cap k : Nat} {m : Int} {all : List (Bool × PgS)} (h : FlatRow W 12 (pgC k 0) (some ⟨g, off, none⟩) len cap ((false, win0 m) :: all)) : W.cell? ⟨g, off + 10, none⟩ = some (.bool false) := by
  have := (pgCellsAt h (i := 0) rfl).2.2.2.2.2.2.2.2.2.2.1
  rw [Nat.zero_mul, Nat.add_zero] at this
  exact this
theorem winMid {W : World} {g off len cap k : Nat} {m : Int} {all : List (Bool × PgS)} (h : FlatRow W 12 (pgC k 0) (some ⟨g, off, none⟩) len cap ((false, win0 m) :: all)) (hA : ∀ j, j < k → all[j]? = some (false, sends k (win0 m) (j + 1))) (t : Nat) (ht : 1 ≤ t ∧ t ≤ k) :
    W.cell? ⟨g, off + t * 12 + 2, none⟩ = some (.int .u64 (m + 1 + t)) ∧ W.cell? ⟨g, off + t * 12 + 8, none⟩ = some (.int .i64 t) ∧ W.cell? ⟨g, off + t * 12 + 10, none⟩ = some (.bool (decide (t = k))) := by
  have hr : ((false, win0 m) :: all)[t]? = some (false, sends k (win0 m) t) := by
    obtain ⟨u, rfl⟩ : ∃ u, t = u + 1 := ⟨t - 1, by omega⟩
    rw [List.getElem?_cons_succ]
    exact hA u (by omega)
  obtain ⟨q0, q1, q2, q3, q4, q5, q6, q7, q8, q9, q10, q11⟩ := pgCellsAt h hr
  obtain ⟨e1, e2, e3⟩ := sends_vals k m t ht.1
  rw [e1] at q2
  rw [e2] at q8
  rw [e3] at q10
  exact ⟨q2, q8, q10⟩

set_option maxRecDepth 100000 in
set_option maxHeartbeats 8000000 in
theorem fnWindow (m : Int) (hm : (Lit.int .u64 m).wf = true) (size : Int) (hs : (Lit.int .i64 size).wf = true) (acked : Int) (ha : (Lit.int .u64 acked).wf = true) {w : World} :
    Calls Try.prog 7 #[.int .u64 m, .int .i64 size, .int .u64 acked] w fun e w' => e = .returned (.bool true) ∧ Ext w w' := by
  obtain ⟨i0, hi, hz0, hz1, hz2⟩ := info_parts infoPC
  have hm2 := wf_u64 hm
  have hs2 := wf_i64 hs
  have ha2 := wf_u64 ha
  clear hm hs ha
  by_cases h1 : size < 1
  · go_enter Try.func7, Try.ntmps7
    go_wp2
    go_ret
    exact ⟨rfl, by (repeat (first | with_reducible exact Ext.refl _ | with_reducible assumption | with_reducible apply Ext.alloc | with_reducible apply Ext.drew | with_reducible apply Ext.drewN | (with_reducible refine Ext.trans ?_ (by assumption)) | ((with_reducible refine Ext.set ?_ ?_ _); rotate_left; (focus (first | (simp; done) | omega | (simp; omega))))))⟩
  by_cases h2 : 60 < size
  · go_enter Try.func7, Try.ntmps7
    go_wp2
    go_ret
    exact ⟨rfl, by (repeat (first | with_reducible exact Ext.refl _ | with_reducible assumption | with_reducible apply Ext.alloc | with_reducible apply Ext.drew | with_reducible apply Ext.drewN | (with_reducible refine Ext.trans ?_ (by assumption)) | ((with_reducible refine Ext.set ?_ ?_ _); rotate_left; (focus (first | (simp; done) | omega | (simp; omega))))))⟩
  by_cases h3 : 4611686018427387904 ≤ m
  · go_enter Try.func7, Try.ntmps7
    go_wp2
    go_ret
    exact ⟨rfl, by (repeat (first | with_reducible exact Ext.refl _ | with_reducible assumption | with_reducible apply Ext.alloc | with_reducible apply Ext.drew | with_reducible apply Ext.drewN | (with_reducible refine Ext.trans ?_ (by assumption)) | ((with_reducible refine Ext.set ?_ ?_ _); rotate_left; (focus (first | (simp; done) | omega | (simp; omega))))))⟩
  obtain ⟨sz, rfl⟩ : ∃ sz : Nat, size = sz := ⟨size.toNat, by omega⟩
  have w1 : IntKind.u64.wrap (sz : Int) = sz := by rw [IntKind.wrap_u64]; omega
  have w2 : IntKind.u64.wrap (m + 1) = m + 1 := by rw [IntKind.wrap_u64]; omega
  have hz : ((sz : Int) == 0) = false := by rw [beq_eq_false_iff_ne]; omega
  obtain ⟨kk, hkk⟩ : ∃ kk : Nat, 1 + acked % (sz : Int) = kk := ⟨(1 + acked % (sz : Int)).toNat, by have := Int.emod_nonneg acked (show (sz : Int) ≠ 0 by omega); omega⟩
  have hk1 : 1 ≤ kk ∧ kk ≤ sz := by
    have e1 := Int.emod_nonneg acked (show (sz : Int) ≠ 0 by omega)
    have e2 := Int.emod_lt_of_pos acked (show (0 : Int) < sz by omega)
    omega
  have w3 : IntKind.u64.wrap (1 + acked % (sz : Int)) = (kk : Int) := by rw [hkk, IntKind.wrap_u64]; omega
  have w4 : IntKind.u64.wrap (m + (kk : Int)) = m + kk := by rw [IntKind.wrap_u64]; omega
  clear hkk
  obtain ⟨all, hrun, hall, hA, hB, hC, hD⟩ := winRun m sz kk ⟨hm2.1, by omega⟩ (by omega) hk1
  have ALL := Lib.hid (And.intro hrun (And.intro hall (And.intro hA (And.intro hB (And.intro hC hD)))))
  have FL := Lib.hid (winF_len m sz kk hk1.2)
  clear hrun hall hA hB hC hD
  go_enter Try.func7, Try.ntmps7
  go_wp2
  go_loopw [9, 35] (fun v i wr => ∃ (k : Nat), k ≤ sz ∧ i = .int .i64 k ∧ wr.ownsRow w.heap.size 60 3 v k ((List.replicate k oneC).flatMap FCall.cells) ∧ Blk wr w.heap.size (pgIn sz 0 (win0 m)) 49 ∧ Ext w wr) (fun _ i _ => sz - (intOf i).toNat)
  case atStart => exact ⟨0, Nat.zero_le _, rfl, World.ownsRow_nil _ _ _ _, Blk.newAt rfl _ _, (Ext.refl w).alloc _⟩
  case round =>
    obtain ⟨k, hk, rfl, hown, hbp, hext⟩ := hrel
    obtain ⟨av, cv, rfl⟩ := ownsRow_shape hown
    have hnpk : (Value.slice av k cv).ownBlock ≠ some w.heap.size := fun h => by
      obtain ⟨cur, hb⟩ := owns_blk hown h
      exact hbp.ne hb (by decide) rfl
    have HO := Lib.hid hown
    have BP := Lib.hid hbp
    have NPK := Lib.hid hnpk
    clear hown hbp hnpk
    by_cases hlt : k < sz
    · go_wp2_with (first | (at_builtin; refine wpList_append_own _ rfl _ _ 50 rfl w.heap.size 60 i0 _ 3 24 Try.underlying50 hi hz0 hz1 hz2 rfl (by decide) _ _ _ rfl (HO.out.alloc _) ⟨wr.heap.size, 0, none⟩ 1 1 oneC.cells rfl rfl (cells_of_new _ _ _ (by rfl)) (by simp [FCall.cells, oneC, Value.oneCell']) (by unfold maxLen; omega) (by omega) (by simp; have := hext.size; omega) ?_; intro v2 W2 hown2 hgrow2 _; have E2 : Ext w W2 := Ext.grown (hext.alloc _) hgrow2 (fun j hj => (HO.out.lt j hj).1); have bq := Blk.grown (BP.out.alloc _) hgrow2 NPK.out; have BP2 := Lib.hid bq; obtain ⟨ad2, cc2, rfl⟩ := ownsRow_shape hown2; have HW2 := Lib.hid hown2; clear hown2 hgrow2 bq) | fail)
      go_roundw
      case rel => exact ⟨k + 1, by omega, by go_num, by rw [List.replicate_succ', List.flatMap_append, List.flatMap_singleton]; exact HW2.out, BP2.out, E2⟩
      case measure => simp [intOf]; omega
    · obtain rfl : k = sz := by omega
      go_wp2_with (first | (at_builtin; refine wpList_append_own _ rfl _ _ 50 rfl w.heap.size 60 i0 _ 3 24 Try.underlying50 hi hz0 hz1 hz2 rfl (by decide) _ _ _ rfl (HO.out.alloc _) ⟨wr.heap.size, 0, none⟩ 2 2 [.int .i64 5, .int .u64 (m + kk), .int .u64 0, .int .i64 10, .int .u64 (m + kk), .int .u64 0] rfl rfl (cells_of_new _ _ _ (by rfl)) (by simp [FCall.cells, oneC, Value.oneCell']) (by unfold maxLen; omega) (by omega) (by simp; have := hext.size; omega) ?_; intro v3 W3 hown3 hgrow3 _; have E3 : Ext w W3 := Ext.grown (hext.alloc _) hgrow3 (fun j hj => (HO.out.lt j hj).1); have bq := Blk.grown (BP.out.alloc _) hgrow3 NPK.out; have BP3 := Lib.hid bq; obtain ⟨ad3, cc3, rfl⟩ := ownsRow_shape hown3; have HW3 := Lib.hid hown3; clear hown3 hgrow3 bq) | fail)
      have hpre := HW3.out
      rw [show (List.replicate k oneC).flatMap FCall.cells ++ [(.int .i64 5 : Value), .int .u64 (m + kk), .int .u64 0, .int .i64 10, .int .u64 (m + kk), .int .u64 0] = (List.replicate k oneC ++ [(⟨5, m + kk, 0⟩ : FCall), ⟨10, m + kk, 0⟩]).flatMap FCall.cells by rw [List.flatMap_append]; rfl] at hpre
      have HP3 := Lib.hid hpre
      clear hpre HW3
      go_loopw [9, 54] (fun v i wr2 => ∃ (j : Nat), j ≤ kk ∧ i = .int .u64 j ∧ wr2.ownsRow w.heap.size 60 3 v (k + 2 + j) (((List.replicate k oneC ++ [(⟨5, m + kk, 0⟩ : FCall), ⟨10, m + kk, 0⟩]) ++ List.replicate j oneC).flatMap FCall.cells) ∧ Blk wr2 w.heap.size (pgIn k 0 (win0 m)) 49 ∧ Ext w wr2) (fun _ i _ => kk - (intOf i).toNat)
      case atStart => exact ⟨0, Nat.zero_le _, rfl, by simpa using HP3.out, BP3.out, E3⟩
      case round =>
        obtain ⟨j, hj, rfl, hown2, hbq2, hext2⟩ := hrel
        obtain ⟨av2, cv2, rfl⟩ := ownsRow_shape hown2
        have hnpk2 : (Value.slice av2 (k + 2 + j) cv2).ownBlock ≠ some w.heap.size := fun h => by
          obtain ⟨cur, hb⟩ := owns_blk hown2 h
          exact hbq2.ne hb (by decide) rfl
        have HO2 := Lib.hid hown2
        have BQ2 := Lib.hid hbq2
        have NPK2 := Lib.hid hnpk2
        clear hown2 hbq2 hnpk2
        by_cases hjk : j < kk
        · go_wp2_with (first | (at_builtin; refine wpList_append_own _ rfl _ _ 50 rfl w.heap.size 60 i0 _ 3 24 Try.underlying50 hi hz0 hz1 hz2 rfl (by decide) _ _ _ rfl (HO2.out.alloc _) ⟨wr.heap.size, 0, none⟩ 1 1 oneC.cells rfl rfl (cells_of_new _ _ _ (by rfl)) (by simp [FCall.cells, oneC, Value.oneCell']) (by unfold maxLen; omega) (by omega) (by simp; have := hext2.size; omega) ?_; intro v4 W4 hown4 hgrow4 _; have E4 : Ext w W4 := Ext.grown (hext2.alloc _) hgrow4 (fun j hj => (HO2.out.lt j hj).1); have bq := Blk.grown (BQ2.out.alloc _) hgrow4 NPK2.out; have BP4 := Lib.hid bq; obtain ⟨ad4, cc4, rfl⟩ := ownsRow_shape hown4; have HW4 := Lib.hid hown4; clear hown4 hgrow4 bq) | fail)
          go_roundw
          case rel => exact ⟨j + 1, by omega, by go_num, by rw [List.replicate_succ', ← List.append_assoc, List.flatMap_append, List.flatMap_singleton]; exact HW4.out, BP4.out, E4⟩
          case measure => simp [intOf]; omega
        · obtain rfl : j = kk := by omega
          have hcalls : (List.replicate k oneC ++ [(⟨5, m + j, 0⟩ : FCall), ⟨10, m + j, 0⟩]) ++ List.replicate j oneC = winCalls m k j := by unfold winCalls; simp
          have hown5 := HO2.out
          rw [hcalls] at hown5
          obtain ⟨N, hN⟩ : ∃ N, N = k + 2 + j := ⟨_, rfl⟩
          rw [← hN] at hown5 ⊢
          obtain ⟨a5, c5, hv5, hf5⟩ := FlatRow.of_owns FCall.cells FCall.length3 (by decide) hown5
          simp only [Value.slice.injEq] at hv5
          obtain ⟨rfl, -, rfl⟩ := hv5
          have CF := Lib.hid hf5
          have hNle : N ≤ 122 := by omega
          have HN := Lib.hid hN
          have b0 := BQ2.out.cell 0
          have b1 := BQ2.out.cell 1
          have b2 := BQ2.out.cell 2
          have b3 := BQ2.out.cell 3
          have b4 := BQ2.out.cell 4
          have b5 := BQ2.out.cell 5
          have b6 := BQ2.out.cell 6
          have b7 := BQ2.out.cell 7
          have b8 := BQ2.out.cell 8
          have b9 := BQ2.out.cell 9
          have b10 := BQ2.out.cell 10
          simp [pgIn, win0] at b0 b1 b2 b3 b4 b5 b6 b7 b8 b9 b10
          have hE0 : Ext w wr := hext2
          have RG : Hid (inU1 (win0 m).mt ∧ inU1 (win0 m).nx ∧ inU1 (win0 m).pend) := ⟨hm2, ⟨by show 0 ≤ m + 1; omega, by show m + 1 < 18446744073709551616; omega⟩, ⟨by show (0 : Int) ≤ 0; decide, by show (0 : Int) < 18446744073709551616; decide⟩⟩
          clear hcalls hown5 hf5 hN
          go_wp2_with (first | (go_at_call 21; refine (progressRun_any k 0 (win0 m) av2 N cv2 (winCalls m k j) all _ (by omega) (by decide) CF.out (by omega) ALL.out.1 rfl rfl (.inr (.inl rfl)) RG.out).mono ?_; rintro r w5 ⟨v5, rfl, hown6, he6⟩; obtain ⟨a6, c6, rfl, hf6⟩ := FlatRow.of_owns (pgC k 0) (pgC_length k 0) (by decide) hown6; obtain ⟨g6, o6, rfl⟩ := FlatRow.addr hf6 (i := 0) rfl; have HF6 := Lib.hid hf6; have HE6 := Lib.hid (Ext.trans hE0 he6); have z10 := winFirst hf6; have x0 := winUpd hf6 ALL.out.2.2.2.1; obtain ⟨fb, u0, u1, u2, u3, u4, u5, u6, u7, u8, u9, u10, u11⟩ := winFree hf6 hk1 ALL.out.2.2.2.2.1; obtain ⟨fe, y0, y1, y2, y3, y4, y5, y6, y7, y8, y9, y10, y11⟩ := winEnd hf6 hk1 HN.out ALL.out.2.2.2.2.2; clear hown6 hf6 he6) | fail)
          go_loopw [11] (fun i wr3 => ∃ (t : Nat), 1 ≤ t ∧ t ≤ k + 1 ∧ i = .int .i64 t ∧ wr3 = w5) (fun i _ => k + 1 - (intOf i).toNat)
          case atStart => exact ⟨1, Nat.le_refl _, by omega, rfl, rfl⟩
          case round =>
            obtain ⟨t, ht1, ht2, rfl, hw5⟩ := hrel
            rw [hw5]
            by_cases htk : t ≤ k
            · obtain ⟨q2, q8, q10⟩ := winMid HF6.out ALL.out.2.2.1 t ⟨ht1, htk⟩
              have wt : IntKind.u64.wrap (t : Int) = t := by rw [IntKind.wrap_u64]; omega
              have wt2 : IntKind.u64.wrap (m + 1 + (t : Int)) = m + 1 + t := by rw [IntKind.wrap_u64]; omega
              have htl : t < N + 1 := by have := HN.out; omega
              have htk' : (t : Int) ≤ k := by omega
              by_cases hte : t = k
              · have htb : ((t : Int) == (k : Int)) = true := by rw [hte]; simp
                rw [decide_eq_true hte] at q10
                have HTE := Lib.hid hte
                clear hte
                go_wp2
                go_roundw
                case rel => exact ⟨t + 1, by omega, by omega, by go_num, trivial⟩
                case measure => simp [intOf]; omega
              · have htb : ((t : Int) == (k : Int)) = false := by rw [beq_eq_false_iff_ne]; omega
                rw [decide_eq_false hte] at q10
                have HTE := Lib.hid hte
                clear hte
                go_wp2
                go_roundw
                case rel => exact ⟨t + 1, by omega, by omega, by go_num, trivial⟩
                case measure => simp [intOf]; omega
            · have htk' : ¬ (t : Int) ≤ k := by omega
              have v1 : IntKind.i64.wrap (j : Int) = j := by rw [IntKind.wrap_i64]; omega
              have v2 : IntKind.i64.wrap ((k : Int) - (j : Int)) = (k : Int) - j := by rw [IntKind.wrap_i64]; omega
              have v3 : IntKind.u64.wrap (m + 1 + (k : Int)) = m + 1 + k := by rw [IntKind.wrap_u64]; omega
              have v4 : IntKind.u64.wrap (m + 1 + (k : Int) + (j : Int)) = m + 1 + k + j := by rw [IntKind.wrap_u64]; omega
              have v5 : IntKind.i64.wrap ((k : Int) + 2) = (k : Int) + 2 := by rw [IntKind.wrap_i64]; omega
              have v6 : IntKind.i64.wrap ((k : Int) + 1) = (k : Int) + 1 := by rw [IntKind.wrap_i64]; omega
              have t2 : ((k : Int) + 2).toNat = k + 2 := by omega
              have t1 : ((k : Int) + 1).toNat = k + 1 := by omega
              have hg6 : g6 < w5.heap.size := World.block_lt_of_cell? w5 _ x0
              have l1 : k + 1 < N + 1 := by have := HN.out; omega
              have l2 : k + 2 < N + 1 := by have := HN.out; omega
              clear b0 b1 b2 b3 b4 b5 b6 b7 b8 b9 b10 z10 hext hext2 HO NPK BP HP3 BP3 E3 HO2 BQ2 NPK2 CF RG hE0 hz hj hk hlt hjk ha2 FL HF6 ALL hi hz0 hz1 hz2 i0
              go_wp2
              go_ret
              exact ⟨rfl, (HE6.out.alloc _).alloc _⟩
end Go.Proofs.Ythfdhamencefiaa
