/-
  Entries: whether two lists of entries are the same.
-/
import Derived.Test.YthfdhamencefiaaRows
import Derived.Test.YthfdhamencefiaaBase
import Derived.Test.YthfdhamencefiaaSees
import Derived.Test.YthfdhamencefiaaEnt
import Derived.Deep.QuietTactic
import Derived.BigQuiet
set_option linter.unusedVariables false
set_option linter.unusedSimpArgs false
namespace Go.Proofs.Ythfdhamencefiaa
open Go.RowKit

theorem toList_inj {d d' : ByteArray} (h : d.toList = d'.toList) : d = d' := by
  rw [ByteArray.toList_eq, ByteArray.toList_eq] at h
  have h2 := Array.toList_inj.1 h
  cases d; cases d'; simp at h2; rw [h2]
theorem neEntRun (x y : Ent) (w : World) : (binOp .neq 66 (.agg #[.int .u64 x.term, .int .u64 x.index, .int .i64 x.kind, .string x.data]) (.agg #[.int .u64 y.term, .int .u64 y.index, .int .i64 y.kind, .string y.data])).run Try.prog w = .ok (.bool (!decide (x = y))) w := by
  obtain ⟨t, i, k, d⟩ := x
  obtain ⟨t', i', k', d'⟩ := y
  simp [go_sem]
  by_cases h1 : t = t' <;> by_cases h2 : i = i' <;> by_cases h3 : k = k' <;> by_cases h4 : d = d' <;> simp [h1, h2, h3, h4]
  all_goals exact fun h => h4 (toList_inj h)

set_option maxRecDepth 100000 in
set_option maxHeartbeats 1000000 in
theorem sameEnts (a1 : Option Addr) (n1 c1 : Nat) (l1 : List Ent) (a2 : Option Addr) (n2 c2 : Nat) (l2 : List Ent) (w : World) (h1 : FlatRow w 4 Ent.cells a1 n1 c1 l1) (h2 : FlatRow w 4 Ent.cells a2 n2 c2 l2) (hn1 : n1 ≤ 2147483647) (hn2 : n2 ≤ 2147483647) :
    Calls Try.prog 10 #[.slice a1 n1 c1, .slice a2 n2 c2] w fun r w' => r = .returned (.bool (decide (l1 = l2))) ∧ Ext w w' := by
  have hl1 := h1.length
  have hl2 := h2.length
  by_cases hn : n1 = n2
  · subst hn
    have X := Lib.hid h1
    have Y := Lib.hid h2
    have L1 := Lib.hid hl1
    have L2 := Lib.hid hl2
    clear h1 h2 hl1 hl2
    go_enter Try.func10, Try.ntmps10
    go_wp2
    go_loopw [5] (fun i wr => ∃ (k : Nat), k ≤ n1 ∧ i = .int .i64 k ∧ l1.take k = l2.take k ∧ Ext w wr) (fun i _ => n1 - (intOf i).toNat)
    case atStart => exact ⟨0, Nat.zero_le _, rfl, rfl, Ext.refl _⟩
    case round =>
      obtain ⟨k, hk, rfl, heq, hext⟩ := hrel
      by_cases hlt : k < n1
      · obtain ⟨x, b, off, hx, rfl, hcx⟩ := X.out.get hlt
        obtain ⟨y, b', off', hy, rfl, hcy⟩ := Y.out.get hlt
        have p0 : wr.cell? ⟨b, off + k * 4, none⟩ = some (.int .u64 x.term) := hext.cellAt (hcx 0 _ rfl)
        have p1 : wr.cell? ⟨b, off + k * 4 + 1, none⟩ = some (.int .u64 x.index) := hext.cellAt (hcx 1 _ rfl)
        have p2 : wr.cell? ⟨b, off + k * 4 + 2, none⟩ = some (.int .i64 x.kind) := hext.cellAt (hcx 2 _ rfl)
        have p3 : wr.cell? ⟨b, off + k * 4 + 3, none⟩ = some (.string x.data) := hext.cellAt (hcx 3 _ rfl)
        have q0 : wr.cell? ⟨b', off' + k * 4, none⟩ = some (.int .u64 y.term) := hext.cellAt (hcy 0 _ rfl)
        have q1 : wr.cell? ⟨b', off' + k * 4 + 1, none⟩ = some (.int .u64 y.index) := hext.cellAt (hcy 1 _ rfl)
        have q2 : wr.cell? ⟨b', off' + k * 4 + 2, none⟩ = some (.int .i64 y.kind) := hext.cellAt (hcy 2 _ rfl)
        have q3 : wr.cell? ⟨b', off' + k * 4 + 3, none⟩ = some (.string y.data) := hext.cellAt (hcy 3 _ rfl)
        have hne := fun W => neEntRun x y W
        have Z := Lib.hid (And.intro heq (And.intro hx hy))
        have hlt' : (k : Int) < n1 := by omega
        clear heq hx hy hcx hcy
        by_cases hxy : x = y
        · have hd : decide (x = y) = true := by rw [hxy]; simp
          rw [hd] at hne
          have HXY := Lib.hid hxy
          clear hxy hd
          go_wp2_with fail
          go_quiet (fail)
          go_wp2
          go_roundw
          case rel => exact ⟨k + 1, by omega, by go_num, by rw [take_succ_of Z.out.2.1, take_succ_of Z.out.2.2, Z.out.1, HXY.out], by (repeat (first | with_reducible exact Ext.refl _ | with_reducible assumption | with_reducible apply Ext.alloc | with_reducible apply Ext.drew | with_reducible apply Ext.drewN | (with_reducible refine Ext.trans ?_ (by assumption)) | ((with_reducible refine Ext.set ?_ ?_ _); rotate_left; (focus (first | (simp; done) | omega | (simp; omega))))))⟩
          case measure => simp [intOf]; omega
        · have hd : decide (x = y) = false := by simp [hxy]
          rw [hd] at hne
          have HXY := Lib.hid hxy
          clear hxy hd
          go_wp2_with fail
          go_quiet (fail)
          go_wp2
          refine bodyPost_ret (results_tmp rfl _ _ _) rfl ?_
          refine ⟨?_, by (repeat (first | with_reducible exact Ext.refl _ | with_reducible assumption | with_reducible apply Ext.alloc | with_reducible apply Ext.drew | with_reducible apply Ext.drewN | (with_reducible refine Ext.trans ?_ (by assumption)) | ((with_reducible refine Ext.set ?_ ?_ _); rotate_left; (focus (first | (simp; done) | omega | (simp; omega))))))⟩
          have hf : decide (l1 = l2) = false := by
            rw [decide_eq_false_iff_not]
            intro h
            have h1 := Z.out.2.1
            rw [h, Z.out.2.2] at h1
            simp at h1
            exact HXY.out h1.symm
          rw [hf]
          rfl
      · obtain rfl : k = n1 := by omega
        rw [List.take_of_length_le (by rw [L1.out]; omega), List.take_of_length_le (by rw [L2.out]; omega)] at heq
        subst heq
        go_wp2
        refine bodyPost_ret (results_tmp rfl _ _ _) rfl ?_
        exact ⟨by simp, hext⟩
  · have hf : decide (l1 = l2) = false := by
      rw [decide_eq_false_iff_not]
      intro h
      subst h
      omega
    rw [hf]
    have hn' : ¬ ((n1 : Int) = n2) := by omega
    clear h1 h2 hl1 hl2
    go_enter Try.func10, Try.ntmps10
    go_wp2
    refine bodyPost_ret (results_tmp rfl _ _ _) rfl ?_
    exact ⟨rfl, Ext.refl _⟩
end Go.Proofs.Ythfdhamencefiaa
