/-
  few: no list is longer than 40; ballots that came in.
-/
import Derived.Test.YtakighadedgemaaRows
import Derived.Test.YtakighadedgemaaBase
import Derived.Test.YtakighadedgemaaSees
import Derived.Test.YtakighadedgemaaVoteM
set_option linter.unusedVariables false
set_option linter.unusedSimpArgs false
namespace Go.Proofs.Ytakighadedgemaa
open Go.RowKit Go.ChangeShapes Go.WideShapes Go.ChangeAt

def slC (v : Option Addr × Nat × Nat) : List Value := [.slice v.1 v.2.1 v.2.2]
def fewB (v : Option Addr × Nat × Nat) : Bool := decide (v.2.1 ≤ 40)
theorem slRow_new (w : World) (L : List (Option Addr × Nat × Nat)) (c : Array Value) (n : Nat) (hc : c.toList = L.map fun v => Value.slice v.1 v.2.1 v.2.2) (hn : L.length = n) (hm : n ≤ maxLen) : FlatRow (w.alloc (.cells c 22)) 1 slC (some ⟨w.heap.size, 0, none⟩) n n L := by
  refine ⟨hn, Nat.le_refl _, hm, fun h => by simp at h, fun i x hx => ⟨w.heap.size, 0, rfl, fun j v hv => ?_⟩⟩
  rw [cell_of_row (w.alloc _) w.heap.size _ _ 22 (0, 0) (heap_alloc_new _ _)]
  cases j with
  | zero =>
    simp [slC] at hv
    subst hv
    rw [← Array.getElem?_toList, hc]
    simp [hx]
  | succ j => simp [slC] at hv

set_option maxHeartbeats 1000000 in
theorem few_any (a : Option Addr) (n c : Nat) (L : List (Option Addr × Nat × Nat)) (w : World) (h : FlatRow w 1 slC a n c L) (hn : n ≤ 2147483647) :
    Calls Try.prog 9 #[.slice a n c] w fun r w' => r = .returned (.bool (L.all fewB)) ∧ Ext w w' := by
  have hl := h.length
  have X := Lib.hid h
  have HL := Lib.hid hl
  clear h hl
  go_enter Try.func9, Try.ntmps9
  go_wp2
  go_loopw [7] (fun i wr => ∃ (k : Nat), k ≤ n ∧ i = .int .i64 k ∧ (L.take k).all fewB = true ∧ wr = w) (fun i _ => n - (intOf i).toNat)
  case atStart => exact ⟨0, Nat.zero_le _, rfl, rfl, rfl⟩
  case round =>
    obtain ⟨k, hk, rfl, hall, rfl⟩ := hrel
    by_cases hlt : k < n
    · obtain ⟨⟨a1, n1, c1⟩, hy⟩ := get_of_lt L (k := k) (by rw [HL.out]; exact hlt)
      obtain ⟨ab, off, rfl, hc⟩ := X.out.at_ k _ hy
      have d0 : wr.cell? ⟨ab, off + k, none⟩ = some (.slice a1 n1 c1) := by
        have := hc 0 _ rfl
        rw [Nat.mul_one, Nat.add_zero] at this
        exact this
      by_cases h40 : n1 ≤ 40
      · have h40' : ¬ (40 : Int) < n1 := by omega
        have HS := Lib.hid (show (L.take (k + 1)).all fewB = true by rw [take_succ_of hy, List.all_append, hall]; simp [fewB, h40])
        clear hc hy hall h40
        go_wp2
        go_roundw
        case rel => exact ⟨k + 1, by omega, by go_num, HS.out, trivial⟩
        case measure => simp [intOf]; omega
      · have h40' : (40 : Int) < n1 := by omega
        have HS := Lib.hid (show L.all fewB = false from all_false_of hy (by simp [fewB]; omega))
        clear hc hy hall h40
        go_wp2
        refine bodyPost_ret (results_tmp rfl _ _ _) rfl ?_
        exact ⟨by rw [HS.out]; rfl, Ext.refl _⟩
    · obtain rfl : k = n := by omega
      rw [List.take_of_length_le (by rw [HL.out]; omega)] at hall
      have HA := Lib.hid hall
      clear hall
      go_wp2
      refine bodyPost_ret (results_tmp rfl _ _ _) rfl ?_
      exact ⟨by rw [HA.out]; rfl, Ext.refl _⟩

def balSh : Sh := .pair (.int .u64) (.pair .bool .unit)
theorem fitsBals : (Sh.slice balSh).fits Try.prog (.inl 23) = true := by kernel_rfl
def BalV (w : World) (v : Value) (l : List (Int × Bool)) : Prop := ∃ a len cap, v = .slice a len cap ∧ FlatRow w 2 Bal.cells a len cap l ∧ inB l
section
variable {H : Type} {enc : TypeId × Value → H} {w : World} {sp : Nat → Bool} {d : DataW H} {ps : List MemPlace} {v : Value} {r : Reach} {b0 : Nat}
set_option maxRecDepth 100000 in
theorem openBals (hv : Value.okWide Try.prog w r b0 23 v) (h : DataW.Trod enc Try.prog w 0 sp true 23 v d ps) : ∃ l : List (Int × Bool), BalV w v l := by
  obtain ⟨x, hx⟩ := seesV_of (Sh.slice balSh) fitsBals h
  obtain ⟨a, len, cap, rfl, hr⟩ := hx.slice Try.underlying23 hv
  obtain ⟨h1, h2⟩ := hr.flat (fun y : balSh.Ty => (y.1, y.2.1)) Bal.cells (fun y => 0 ≤ y.1 ∧ y.1 < 18446744073709551616) 2 rfl fun cs y hs => by
    simp only [balSh, Sees] at hs
    obtain ⟨_, _, rfl, ⟨rfl, q1⟩, _, _, rfl, rfl, rfl⟩ := hs
    exact ⟨rfl, wf_u64 q1⟩
  exact ⟨_, a, len, cap, rfl, h1, h2⟩
end
end Go.Proofs.Ytakighadedgemaa
