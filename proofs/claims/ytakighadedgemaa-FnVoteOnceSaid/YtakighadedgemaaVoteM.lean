/-
  Voters and ballots as maps; the result of a majority and of a joint configuration.
-/
import Derived.Test.YtakighadedgemaaRows
import Derived.Test.YtakighadedgemaaBase
import Derived.Test.YtakighadedgemaaSees
import Derived.Test.YtakighadedgemaaU64s
import Derived.Test.YtakighadedgemaaVoteP
import Derived.Maps.Own
import Derived.Maps.OwnOps
import Derived.Maps.OwnSet
import Derived.Maps.RangeWalk
set_option linter.unusedVariables false
set_option linter.unusedSimpArgs false
namespace Go.Proofs.Ytakighadedgemaa
open Go.RowKit Go.Maps

def SetM (w : World) (b n : Nat) (ids : List Int) : Prop := w.ownsMap Try.prog 28 unitElem b n (setD ids)
def BalM (w : World) (b n : Nat) (l : List (Int × Bool)) : Prop := w.ownsMap Try.prog 28 (plainElem Try.prog 4) b n (balD l)
theorem SetM.ext {w w' : World} {b n : Nat} {ids : List Int} (h : SetM w b n ids) (e : Ext w w') : SetM w' b n ids := World.ownsMap.kept h (World.grownBy_of_ext e (row := none)) (by simp)
theorem BalM.ext {w w' : World} {b n : Nat} {l : List (Int × Bool)} (h : BalM w b n l) (e : Ext w w') : BalM w' b n l := World.ownsMap.kept h (World.grownBy_of_ext e (row := none)) (by simp)
theorem keyU : Keyed Try.prog 28 := int_keyed Try.underlying28
theorem keyOfU {x : Int} (h : 0 ≤ x ∧ x < 18446744073709551616) : keyOf Try.prog 28 (.int .u64 x) = some (litU x) :=
  keyOf_int_mk Try.underlying28 (by simp [Lit.wf, IntKind.min, IntKind.max, IntKind.signed, IntKind.bits]; omega)
def inU (l : List Int) : Prop := ∀ x, x ∈ l → 0 ≤ x ∧ x < 18446744073709551616
def Bal.cells (b : Int × Bool) : List Value := [.int .u64 b.1, .bool b.2]
def inB (l : List (Int × Bool)) : Prop := ∀ x, x ∈ l → 0 ≤ x.1 ∧ x.1 < 18446744073709551616

set_option maxHeartbeats 1000000 in
theorem voters_any (a : Option Addr) (n c : Nat) (ids : List Int) (w : World) (h : FlatRow w 1 u64C a n c ids) (hk : inU ids) (hn : n ≤ 2147483647) :
    Calls Try.prog 25 #[.slice a n c] w fun r w' => r = .returned (.map (some w.heap.size)) ∧ SetM w' w.heap.size n ids ∧ Ext w w' := by
  have hmm := @run_makeMap Try.prog
  have hl := h.length
  have X := Lib.hid h
  have HK := Lib.hid hk
  have HL := Lib.hid hl
  clear h hk hl
  go_enter Try.func25, Try.ntmps25
  go_wp2
  go_loopw [9] (fun i wr => ∃ (k : Nat), k ≤ n ∧ i = .int .i64 k ∧ SetM wr w.heap.size k (ids.take k) ∧ Ext w wr) (fun i _ => n - (intOf i).toNat)
  case atStart => exact ⟨0, Nat.zero_le _, rfl, World.ownsMap_made _ _ _ _, (Ext.refl _).alloc _⟩
  case round =>
    obtain ⟨k, hk, rfl, hown, hext⟩ := hrel
    by_cases hlt : k < n
    · obtain ⟨x, hy⟩ := get_of_lt ids (k := k) (by rw [HL.out]; exact hlt)
      obtain ⟨ab, off, rfl, hc⟩ := X.out.at_ k _ hy
      have c0 : wr.cell? ⟨ab, off + k, none⟩ = some (.int .u64 x) := by
        have := hc 0 _ rfl
        rw [Nat.mul_one, Nat.add_zero] at this
        rw [Below.cell hext (World.block_lt_of_cell? w _ this)]; exact this
      have hx := HK.out x (List.mem_of_getElem? hy)
      have HO := Lib.hid hown
      have HY := Lib.hid hy
      clear hown hc hy
      go_wp2_with (first | (at_mapUpdate; refine wpList_mapUpdate_own _ rfl _ _ _ 52 rfl 28 _ keyU Try.underlying52 unitElem w.heap.size k _ rfl HO.out (by unfold maxLen; omega) _ _ _ rfl rfl (keyOfU hx) _ [] unitElem_mk ?_; intro w1 hown1 hgrow1; have HW := Lib.hid hown1; have HG := Lib.hid hgrow1; clear hown1 hgrow1) | fail)
      go_roundw
      case rel => exact ⟨k + 1, by omega, by go_num, by unfold SetM; rw [take_succ_of HY.out, setD_snoc]; exact HW.out, Ext.grown hext HG.out (fun j hj => by cases hj; exact Nat.le_refl _)⟩
      case measure => simp [intOf]; omega
    · obtain rfl : k = n := by omega
      rw [List.take_of_length_le (by rw [HL.out]; omega)] at hown
      have HO := Lib.hid hown
      clear hown
      go_wp2
      refine bodyPost_ret (results_tmp rfl _ _ _) rfl ?_
      exact ⟨rfl, HO.out, hext⟩

set_option maxHeartbeats 1000000 in
theorem ballots_any (a : Option Addr) (n c : Nat) (l : List (Int × Bool)) (w : World) (h : FlatRow w 2 Bal.cells a n c l) (hk : inB l) (hn : n ≤ 2147483647) :
    Calls Try.prog 27 #[.slice a n c] w fun r w' => r = .returned (.map (some w.heap.size)) ∧ BalM w' w.heap.size n l ∧ Ext w w' := by
  have hmm := @run_makeMap Try.prog
  have hl := h.length
  have X := Lib.hid h
  have HK := Lib.hid hk
  have HL := Lib.hid hl
  clear h hk hl
  go_enter Try.func27, Try.ntmps27
  go_wp2
  go_loopw [9] (fun i wr => ∃ (k : Nat), k ≤ n ∧ i = .int .i64 k ∧ BalM wr w.heap.size k (l.take k) ∧ Ext w wr) (fun i _ => n - (intOf i).toNat)
  case atStart => exact ⟨0, Nat.zero_le _, rfl, World.ownsMap_made _ _ _ _, (Ext.refl _).alloc _⟩
  case round =>
    obtain ⟨k, hk, rfl, hown, hext⟩ := hrel
    by_cases hlt : k < n
    · obtain ⟨⟨x, v⟩, hy⟩ := get_of_lt l (k := k) (by rw [HL.out]; exact hlt)
      obtain ⟨ab, off, rfl, hc⟩ := X.out.at_ k _ hy
      have c0 : wr.cell? ⟨ab, off + k * 2, none⟩ = some (.int .u64 x) := by
        have := hc 0 _ rfl
        rw [Nat.add_zero] at this
        rw [Below.cell hext (World.block_lt_of_cell? w _ this)]; exact this
      have c1 : wr.cell? ⟨ab, off + k * 2 + 1, none⟩ = some (.bool v) := by
        have := hc 1 _ rfl
        rw [Below.cell hext (World.block_lt_of_cell? w _ this)]; exact this
      have hx := HK.out _ (List.mem_of_getElem? hy)
      simp only at hx
      have HO := Lib.hid hown
      have HY := Lib.hid hy
      clear hown hc hy
      go_wp2_with (first | (at_mapUpdate; refine wpList_mapUpdate_own _ rfl _ _ _ 57 rfl 28 4 keyU Try.underlying57 (plainElem Try.prog 4) w.heap.size k _ rfl (World.ownsMap.alloc HO.out _) (by unfold maxLen; omega) _ _ _ rfl rfl (keyOfU hx) _ [] (plainElem_bool Try.underlying4 v) ?_; intro w1 hown1 hgrow1; have HW := Lib.hid hown1; have HG := Lib.hid hgrow1; clear hown1 hgrow1) | fail)
      go_roundw
      case rel => exact ⟨k + 1, by omega, by go_num, by unfold BalM; rw [take_succ_of HY.out, balD_snoc]; exact HW.out, Ext.grown (hext.alloc _) HG.out (fun j hj => by cases hj; exact Nat.le_refl _)⟩
      case measure => simp [intOf]; omega
    · obtain rfl : k = n := by omega
      rw [List.take_of_length_le (by rw [HL.out]; omega)] at hown
      have HO := Lib.hid hown
      clear hown
      go_wp2
      refine bodyPost_ret (results_tmp rfl _ _ _) rfl ?_
      exact ⟨rfl, HO.out, hext⟩
end Go.Proofs.Ytakighadedgemaa
