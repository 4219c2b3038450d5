/-
  FnFlightsFree's own walk.
-/
import Derived.Test.YthfdhamencefiaaRows
import Derived.Test.YthfdhamencefiaaBase
import Derived.Test.YthfdhamencefiaaSees
import Derived.Test.YthfdhamencefiaaEntP
import Derived.Test.YthfdhamencefiaaFrom
import Derived.Test.YthfdhamencefiaaFlight
import Derived.Test.YthfdhamencefiaaFlightB
import Derived.Test.YthfdhamencefiaaFlights
import Derived.Test.YthfdhamencefiaaFreeP
import Derived.Test.YthfdhamencefiaaU64s
import Derived.Deep.QuietTactic
import Derived.BigQuiet
import Derived.IntWalk
import Derived.Laws.StructEq
set_option linter.unusedVariables false
set_option linter.unusedSimpArgs false
namespace Go.Proofs.Ythfdhamencefiaa
open Go.RowKit

theorem infoFC : (Try.prog.info? 31).map (fun i => (i.zero, i.size, i.bytes)) = some (some (.agg #[.int .i64 0, .int .u64 0, .int .u64 0]), 3, 24) := by kernel_rfl
theorem FCall.cells_length (c : FCall) : c.cells.length = 3 := rfl
theorem fcall_one (c : FCall) : ∀ u, u ∈ c.cells → u.oneCell' = true := by simp [FCall.cells, Value.oneCell']

theorem FlatRow.addr {α : Type} {w : World} {n : Nat} {cells : α → List Value} {a : Option Addr} {len cap : Nat} {l : List α} (h : FlatRow w n cells a len cap l) {i : Nat} {x : α} (hx : l[i]? = some x) : ∃ b off, a = some ⟨b, off, none⟩ := by
  obtain ⟨b, off, ha, -⟩ := h.at_ i x hx
  exact ⟨b, off, ha⟩
theorem flCellsAt {w : World} {sz : Nat} {g off len cap : Nat} {l : List (Option (List (Int × Int)))} (h : FlatRow w 3 (flAnsL sz 0) (some ⟨g, off, none⟩) len cap l) {i : Nat} {D : List (Int × Int)} (hi : l[i]? = some (some D)) :
    w.cell? ⟨g, off + i * 3, none⟩ = some (.int .i64 D.length) ∧ w.cell? ⟨g, off + i * 3 + 1, none⟩ = some (.bool ((D.length : Int) == (sz : Int))) ∧ w.cell? ⟨g, off + i * 3 + 2, none⟩ = some (.bool false) := by
  obtain ⟨b, o, ha, hc⟩ := h.at_ i _ hi
  simp at ha
  obtain ⟨rfl, rfl⟩ := ha
  refine ⟨hc 0 (.int .i64 D.length) rfl, ?_, hc 2 (.bool false) rfl⟩
  rw [hc 1 (.bool (fullB sz 0 D)) rfl]
  unfold fullB
  by_cases h : D.length = sz
  · simp [h]
  · have : ¬ (D.length : Int) = sz := by omega
    simp [h]
    omega
theorem stoodFA : Try.prog.stoodInHeld 35 = false := by kernel_rfl
theorem eqFA (w : World) (a : Int) (b : Bool) : (binOp .eql 35 (.agg #[.int .i64 a, .bool b, .bool false]) (.agg #[.int .i64 a, .bool b, .bool false])).run Try.prog w = .ok (.bool true) w := by
  rw [run_eql_struct, run_equalIn_agg _ _ _ _ _ (by unfold Program.fieldsOf; rw [Try.underlying35]) stoodFA]
  simp [go_sem, Op.eqFields]

set_option maxRecDepth 100000 in
set_option maxHeartbeats 4000000 in
theorem fnFree (size : Int) (hs : (Lit.int .i64 size).wf = true) (v1 : Value) (l : List Int) {w : World} (h : U64V w v1 l) (to : Int) (ht : (Lit.int .u64 to).wf = true) :
    Calls Try.prog 4 #[.int .i64 size, v1, .int .u64 to] w fun e w' => e = .returned (.bool true) ∧ Ext w w' := by
  obtain ⟨i0, hi, hz0, hz1, hz2⟩ := info_parts infoFC
  obtain ⟨a, n, c, rfl, hr, hok⟩ := h
  have hs2 := wf_i64 hs
  have ht2 := wf_u64 ht
  have hl := hr.length
  by_cases h1 : (2147483647 : Int) < n
  · go_enter Try.func4, Try.ntmps4
    go_wp2
    go_ret
    exact ⟨rfl, by (repeat (first | with_reducible exact Ext.refl _ | with_reducible assumption | with_reducible apply Ext.alloc | with_reducible apply Ext.drew | with_reducible apply Ext.drewN | (with_reducible refine Ext.trans ?_ (by assumption)) | ((with_reducible refine Ext.set ?_ ?_ _); rotate_left; (focus (first | (simp; done) | omega | (simp; omega))))))⟩
  by_cases h2 : size < 1
  · go_enter Try.func4, Try.ntmps4
    go_wp2
    go_ret
    exact ⟨rfl, by (repeat (first | with_reducible exact Ext.refl _ | with_reducible assumption | with_reducible apply Ext.alloc | with_reducible apply Ext.drew | with_reducible apply Ext.drewN | (with_reducible refine Ext.trans ?_ (by assumption)) | ((with_reducible refine Ext.set ?_ ?_ _); rotate_left; (focus (first | (simp; done) | omega | (simp; omega))))))⟩
  by_cases h3 : 1000 < size
  · go_enter Try.func4, Try.ntmps4
    go_wp2
    go_ret
    exact ⟨rfl, by (repeat (first | with_reducible exact Ext.refl _ | with_reducible assumption | with_reducible apply Ext.alloc | with_reducible apply Ext.drew | with_reducible apply Ext.drewN | (with_reducible refine Ext.trans ?_ (by assumption)) | ((with_reducible refine Ext.set ?_ ?_ _); rotate_left; (focus (first | (simp; done) | omega | (simp; omega))))))⟩
  have X := Lib.hid hr
  have HOK := Lib.hid hok
  have HL := Lib.hid hl
  obtain ⟨sz, rfl⟩ : ∃ sz : Nat, size = sz := ⟨size.toNat, by omega⟩
  clear hs ht hs2 hr hok hl
  go_enter Try.func4, Try.ntmps4
  go_wp2
  go_loopw [7, 8, 9, 24] (fun v q la i wr => ∃ (k : Nat) (cs : List Int), k ≤ n ∧ i = .int .i64 k ∧ q = .int .i64 (above to cs) ∧ la = .int .u64 (cs.getLast?.getD 0) ∧ cs.length ≤ sz ∧ cs.Pairwise (· < ·) ∧ (∀ x, x ∈ cs → 0 ≤ x ∧ x < 18446744073709551616) ∧ wr.ownsRow w.heap.size 31 3 v cs.length ((cs.map addC).flatMap FCall.cells) ∧ Ext w wr) (fun _ _ _ i _ => n - (intOf i).toNat)
  case atStart => exact ⟨0, [], Nat.zero_le _, rfl, rfl, rfl, Nat.zero_le _, List.Pairwise.nil, fun x hx => by simp at hx, World.ownsRow_nil _ _ _ _, Ext.refl _⟩
  case round =>
    obtain ⟨k, cs, hk, rfl, rfl, rfl, hcl, hpw, hcr, hown, hext⟩ := hrel
    by_cases hlt : k < n
    · obtain ⟨x, hy⟩ := get_of_lt l (k := k) (by rw [HL.out]; exact hlt)
      obtain ⟨ab, off, rfl, hc⟩ := X.out.at_ k _ hy
      have c0 : wr.cell? ⟨ab, off + k, none⟩ = some (.int .u64 x) := by
        have := hc 0 _ rfl
        rw [Nat.mul_one, Nat.add_zero] at this
        rw [Below.cell hext (World.block_lt_of_cell? w _ this)]; exact this
      obtain ⟨hx0, hx1⟩ := HOK.out x (List.mem_of_getElem? hy)
      obtain ⟨av, cv, rfl⟩ := ownsRow_shape hown
      obtain ⟨la, hla⟩ : ∃ la, la = cs.getLast?.getD 0 := ⟨_, rfl⟩
      obtain ⟨m, hm⟩ : ∃ m, m = cs.length := ⟨_, rfl⟩
      rw [← hla, ← hm]
      rw [← hm] at hcl hown
      have HO := Lib.hid hown
      have Z := Lib.hid (And.intro hpw (And.intro hcr (And.intro hla hm)))
      have HQ := Lib.hid (above_le to cs)
      clear hpw hcr hla hm hown hc hy
      by_cases hA : m = sz
      · subst hA
        by_cases hB : x ≤ la
        · go_wp2
          go_roundw
          case rel => exact ⟨k + 1, cs, by omega, by go_num, rfl, by rw [Z.out.2.2.1], by rw [← Z.out.2.2.2]; exact hcl, Z.out.1, Z.out.2.1, by rw [← Z.out.2.2.2]; exact HO.out, hext⟩
          case measure => simp [intOf]; omega
        · go_wp2
          go_roundw
          case rel => exact ⟨k + 1, cs, by omega, by go_num, rfl, by rw [Z.out.2.2.1], by rw [← Z.out.2.2.2]; exact hcl, Z.out.1, Z.out.2.1, by rw [← Z.out.2.2.2]; exact HO.out, hext⟩
          case measure => simp [intOf]; omega
      by_cases hB : x ≤ la ∧ 0 < m
      · obtain ⟨hB1, hB2⟩ := hB
        go_wp2
        go_roundw
        case rel => exact ⟨k + 1, cs, by omega, by go_num, rfl, by rw [Z.out.2.2.1], by rw [← Z.out.2.2.2]; exact hcl, Z.out.1, Z.out.2.1, by rw [← Z.out.2.2.2]; exact HO.out, hext⟩
        case measure => simp [intOf]; omega
      have hms : m < sz := by omega
      have hmn : ¬ (sz : Int) ≤ m := by omega
      have HC := Lib.hid (show la < x ∨ m = 0 by omega)
      have hq2 : above to cs ≤ 1000 := by have := HQ.out; have := Z.out.2.2.2; omega
      by_cases hT : to < x
      · by_cases hB1 : x ≤ la
        · have hm0 : m = 0 := by omega
          subst hm0
          go_wp2_with (first | (at_builtin; refine wpList_append_own _ rfl _ _ 29 rfl w.heap.size 31 i0 _ 3 24 Try.underlying29 hi hz0 hz1 hz2 rfl (by decide) _ _ _ rfl (HO.out.alloc _) ⟨wr.heap.size, 0, none⟩ 1 1 (addC x).cells rfl rfl (cells_of_new _ _ _ (by rfl)) (fcall_one _) (by unfold maxLen; omega) (by omega) (by simp; have := hext.size; omega) ?_; intro v2 w2 hown2 hgrow2 _; have E2 : Ext w w2 := Ext.grown (hext.alloc _) hgrow2 (fun j hj => (HO.out.lt j hj).1); obtain ⟨ad2, cc2, rfl⟩ := ownsRow_shape hown2; have HW2 := Lib.hid hown2; clear hown2 hgrow2) | fail)
          go_roundw
          case rel =>
            refine ⟨k + 1, cs ++ [x], by omega, by go_num, by rw [above_snoc]; simp [hT], by simp, by rw [List.length_append, ← Z.out.2.2.2]; simp; omega, pairwise_snoc Z.out.1 (fun y hy => ?_), fun y hy => ?_, ?_, E2⟩
            · have e1 := Z.out.2.2.1
              have e2 := Z.out.2.2.2
              have e3 := HC.out
              rw [hy] at e1
              simp at e1
              have : 0 < cs.length := by
                cases cs with
                | nil => simp at hy
                | cons _ _ => simp
              omega
            · rcases List.mem_append.1 hy with h | h
              · exact Z.out.2.1 y h
              · simp at h; subst h; exact ⟨hx0, hx1⟩
            · have := HW2.out
              rw [List.length_append, List.map_append, List.flatMap_append, ← Z.out.2.2.2]
              simpa using this
          case measure => simp [intOf]; omega
        · go_wp2_with (first | (at_builtin; refine wpList_append_own _ rfl _ _ 29 rfl w.heap.size 31 i0 _ 3 24 Try.underlying29 hi hz0 hz1 hz2 rfl (by decide) _ _ _ rfl (HO.out.alloc _) ⟨wr.heap.size, 0, none⟩ 1 1 (addC x).cells rfl rfl (cells_of_new _ _ _ (by rfl)) (fcall_one _) (by unfold maxLen; omega) (by omega) (by simp; have := hext.size; omega) ?_; intro v2 w2 hown2 hgrow2 _; have E2 : Ext w w2 := Ext.grown (hext.alloc _) hgrow2 (fun j hj => (HO.out.lt j hj).1); obtain ⟨ad2, cc2, rfl⟩ := ownsRow_shape hown2; have HW2 := Lib.hid hown2; clear hown2 hgrow2) | fail)
          go_roundw
          case rel =>
            refine ⟨k + 1, cs ++ [x], by omega, by go_num, by rw [above_snoc]; simp [hT], by simp, by rw [List.length_append, ← Z.out.2.2.2]; simp; omega, pairwise_snoc Z.out.1 (fun y hy => ?_), fun y hy => ?_, ?_, E2⟩
            · have e1 := Z.out.2.2.1
              have e2 := Z.out.2.2.2
              have e3 := HC.out
              rw [hy] at e1
              simp at e1
              have : 0 < cs.length := by
                cases cs with
                | nil => simp at hy
                | cons _ _ => simp
              omega
            · rcases List.mem_append.1 hy with h | h
              · exact Z.out.2.1 y h
              · simp at h; subst h; exact ⟨hx0, hx1⟩
            · have := HW2.out
              rw [List.length_append, List.map_append, List.flatMap_append, ← Z.out.2.2.2]
              simpa using this
          case measure => simp [intOf]; omega
      · by_cases hB1 : x ≤ la
        · have hm0 : m = 0 := by omega
          subst hm0
          go_wp2_with (first | (at_builtin; refine wpList_append_own _ rfl _ _ 29 rfl w.heap.size 31 i0 _ 3 24 Try.underlying29 hi hz0 hz1 hz2 rfl (by decide) _ _ _ rfl (HO.out.alloc _) ⟨wr.heap.size, 0, none⟩ 1 1 (addC x).cells rfl rfl (cells_of_new _ _ _ (by rfl)) (fcall_one _) (by unfold maxLen; omega) (by omega) (by simp; have := hext.size; omega) ?_; intro v2 w2 hown2 hgrow2 _; have E2 : Ext w w2 := Ext.grown (hext.alloc _) hgrow2 (fun j hj => (HO.out.lt j hj).1); obtain ⟨ad2, cc2, rfl⟩ := ownsRow_shape hown2; have HW2 := Lib.hid hown2; clear hown2 hgrow2) | fail)
          go_roundw
          case rel =>
            refine ⟨k + 1, cs ++ [x], by omega, by go_num, by rw [above_snoc]; simp [hT], by simp, by rw [List.length_append, ← Z.out.2.2.2]; simp; omega, pairwise_snoc Z.out.1 (fun y hy => ?_), fun y hy => ?_, ?_, E2⟩
            · have e1 := Z.out.2.2.1
              have e2 := Z.out.2.2.2
              have e3 := HC.out
              rw [hy] at e1
              simp at e1
              have : 0 < cs.length := by
                cases cs with
                | nil => simp at hy
                | cons _ _ => simp
              omega
            · rcases List.mem_append.1 hy with h | h
              · exact Z.out.2.1 y h
              · simp at h; subst h; exact ⟨hx0, hx1⟩
            · have := HW2.out
              rw [List.length_append, List.map_append, List.flatMap_append, ← Z.out.2.2.2]
              simpa using this
          case measure => simp [intOf]; omega
        · go_wp2_with (first | (at_builtin; refine wpList_append_own _ rfl _ _ 29 rfl w.heap.size 31 i0 _ 3 24 Try.underlying29 hi hz0 hz1 hz2 rfl (by decide) _ _ _ rfl (HO.out.alloc _) ⟨wr.heap.size, 0, none⟩ 1 1 (addC x).cells rfl rfl (cells_of_new _ _ _ (by rfl)) (fcall_one _) (by unfold maxLen; omega) (by omega) (by simp; have := hext.size; omega) ?_; intro v2 w2 hown2 hgrow2 _; have E2 : Ext w w2 := Ext.grown (hext.alloc _) hgrow2 (fun j hj => (HO.out.lt j hj).1); obtain ⟨ad2, cc2, rfl⟩ := ownsRow_shape hown2; have HW2 := Lib.hid hown2; clear hown2 hgrow2) | fail)
          go_roundw
          case rel =>
            refine ⟨k + 1, cs ++ [x], by omega, by go_num, by rw [above_snoc]; simp [hT], by simp, by rw [List.length_append, ← Z.out.2.2.2]; simp; omega, pairwise_snoc Z.out.1 (fun y hy => ?_), fun y hy => ?_, ?_, E2⟩
            · have e1 := Z.out.2.2.1
              have e2 := Z.out.2.2.2
              have e3 := HC.out
              rw [hy] at e1
              simp at e1
              have : 0 < cs.length := by
                cases cs with
                | nil => simp at hy
                | cons _ _ => simp
              omega
            · rcases List.mem_append.1 hy with h | h
              · exact Z.out.2.1 y h
              · simp at h; subst h; exact ⟨hx0, hx1⟩
            · have := HW2.out
              rw [List.length_append, List.map_append, List.flatMap_append, ← Z.out.2.2.2]
              simpa using this
          case measure => simp [intOf]; omega
    · obtain rfl : k = n := by omega
      obtain ⟨m, hm⟩ : ∃ m, m = cs.length := ⟨_, rfl⟩
      obtain ⟨outs, D, hrun, hol, ho0, ho1, hD, ho2⟩ := freeRun sz to cs hpw hcl
      rw [← hm] at hcl hown hol ho0 ho1 ho2
      obtain ⟨e, he⟩ : ∃ e, e = above to cs := ⟨_, rfl⟩
      rw [← he] at hD
      rw [← he]
      have hee : e ≤ 1000 := by have := above_le to cs; omega
      obtain ⟨av, cv, rfl⟩ := ownsRow_shape hown
      have HO := Lib.hid hown
      have HR := Lib.hid hrun
      have HG := Lib.hid (And.intro hol (And.intro ho0 (And.intro ho1 (And.intro hD ho2))))
      have HCR := Lib.hid hcr
      clear hown hrun hol ho0 ho1 hD ho2 hpw hcr
      have L2 := Lib.hid (show (cs.map addC).flatMap FCall.cells ++ [(.int .i64 2 : Value), .int .u64 to, .int .u64 0, .int .i64 2, .int .u64 to, .int .u64 0] = (cs.map addC ++ [(⟨2, to, 0⟩ : FCall), ⟨2, to, 0⟩]).flatMap FCall.cells by rw [List.flatMap_append]; rfl)
      have CO := Lib.hid (show ∀ x, x ∈ cs.map addC ++ [(⟨2, to, 0⟩ : FCall), ⟨2, to, 0⟩] → FCall.ok x by
        intro x hx
        rcases List.mem_append.1 hx with h | h
        · obtain ⟨y, hy, rfl⟩ := List.mem_map.1 h
          exact ⟨HCR.out y hy, by simp [addC]⟩
        · simp at h
          subst h
          exact ⟨ht2, by simp⟩)
      obtain ⟨b1, hb1⟩ : ∃ b, b = ((e : Int) == (sz : Int)) := ⟨_, rfl⟩
      obtain ⟨b2, hb2⟩ : ∃ b, b = ((m : Int) == (sz : Int)) := ⟨_, rfl⟩
      have HB1 := Lib.hid hb1
      have HB2 := Lib.hid hb2
      have HM := Lib.hid hm
      clear hm hb1 hb2 he
      go_wp2_with (first | (at_builtin; refine wpList_append_own _ rfl _ _ 29 rfl w.heap.size 31 i0 _ 3 24 Try.underlying29 hi hz0 hz1 hz2 rfl (by decide) _ _ _ rfl (HO.out.alloc _) ⟨wr.heap.size, 0, none⟩ 2 2 [.int .i64 2, .int .u64 to, .int .u64 0, .int .i64 2, .int .u64 to, .int .u64 0] rfl rfl (cells_of_new _ _ _ (by rfl)) (by simp [Value.oneCell']) (by unfold maxLen; omega) (by omega) (by simp; have := hext.size; omega) ?_; intro v2 w2 hown2 hgrow2 _; have E2 : Ext w w2 := Ext.grown (hext.alloc _) hgrow2 (fun j hj => (HO.out.lt j hj).1); rw [L2.out] at hown2; obtain ⟨ad2, cc2, rfl, hf2⟩ := FlatRow.of_owns FCall.cells FCall.cells_length (by decide) hown2; have HF2 := Lib.hid hf2; clear hown2 hgrow2 hf2) | (go_at_call 12; refine (flights_any sz 0 _ _ _ _ _ (by omega) (by omega) HF2.out CO.out (by omega)).mono ?_; rintro r w3 ⟨v3, m3, rfl, hm3, hown3, he3⟩; rw [HR.out] at hown3; obtain ⟨ad3, cc3, rfl, hf3⟩ := FlatRow.of_owns (flAnsL sz 0) (flAnsL_length sz 0) (by decide) hown3; have hl3 := hf3.length; rw [HG.out.1] at hl3; subst hl3; obtain ⟨g3, o3, rfl⟩ := hf3.addr HG.out.2.1; obtain ⟨n0, n1, n2⟩ := flCellsAt hf3 HG.out.2.1; obtain ⟨p0, p1, p2⟩ := flCellsAt hf3 HG.out.2.2.1; rw [HG.out.2.2.2.1] at n0 n1 p0 p1; rw [← HB1.out] at n1 p1; have HF3 := Lib.hid hf3; clear hown3 hf3) | fail)
      have A1 : IntKind.i64.wrap ((m : Int) + 1) = (m : Int) + 1 := by rw [IntKind.wrap_i64]; omega
      have q1 : IntKind.i64.wrap ((e : Int)) = (e : Int) := by rw [IntKind.wrap_i64]; omega
      have hse : ∀ w, (binOp .eql 35 (.agg #[.int .i64 e, .bool b1, .bool false]) (.agg #[.int .i64 e, .bool b1, .bool false])).run Try.prog w = .ok (.bool true) w := fun w => eqFA w _ _
      have i1 : (m : Int) < m + 2 := by omega
      have i2 : (m : Int) + 1 < m + 2 := by omega
      have i3 : (0 : Int) ≤ m := by omega
      have i4 : (0 : Int) ≤ (m : Int) + 1 := by omega
      have z1 : m < m + 2 := by omega
      have z2 : m + 1 < m + 2 := by omega
      have t1 : ((m : Int) + 1).toNat = m + 1 := by omega
      have t0 : ((m : Int)).toNat = m := by omega
      have B1 : ((e : Int) == (sz : Int)) = b1 := HB1.out.symm
      have B2 : ((m : Int) == (sz : Int)) = b2 := HB2.out.symm
      have B3 : (b1 == b1) = true := by simp
      have B4 : (b2 == b2) = true := by simp
      by_cases hm0 : m = 0
      · have d0 : ((m : Int) == 0) = true := by subst hm0; rfl
        have HM0 := Lib.hid hm0
        clear hm0
        go_quiet (fail)
        go_wp2
        go_ret
        exact ⟨rfl, by (repeat (first | with_reducible exact Ext.refl _ | with_reducible assumption | with_reducible apply Ext.alloc | with_reducible apply Ext.drew | with_reducible apply Ext.drewN | (with_reducible refine Ext.trans ?_ (by assumption)) | ((with_reducible refine Ext.set ?_ ?_ _); rotate_left; (focus (first | (simp; done) | omega | (simp; omega))))))⟩
      · have hq := HG.out.2.2.2.2 hm0
        obtain ⟨r0, r1, r2⟩ := flCellsAt HF3.out hq
        rw [List.length_map, ← HM.out, B2] at r1
        rw [List.length_map, ← HM.out] at r0
        have d0 : ((m : Int) == 0) = false := by rw [beq_eq_false_iff_ne]; omega
        have j0 : IntKind.i64.wrap ((m : Int) - 1) = (m : Int) - 1 := by rw [IntKind.wrap_i64]; omega
        have j1 : (0 : Int) ≤ (m : Int) - 1 := by omega
        have j2 : (m : Int) - 1 < (m : Int) + 2 := by omega
        have j3 : ((m : Int) - 1).toNat = m - 1 := by omega
        have j4 : m - 1 < m + 2 := by omega
        have HQ := Lib.hid hq
        clear hm0 hq
        go_quiet (fail)
        go_wp2
        go_ret
        exact ⟨rfl, by (repeat (first | with_reducible exact Ext.refl _ | with_reducible assumption | with_reducible apply Ext.alloc | with_reducible apply Ext.drew | with_reducible apply Ext.drewN | (with_reducible refine Ext.trans ?_ (by assumption)) | ((with_reducible refine Ext.set ?_ ?_ _); rotate_left; (focus (first | (simp; done) | omega | (simp; omega))))))⟩
end Go.Proofs.Ythfdhamencefiaa
