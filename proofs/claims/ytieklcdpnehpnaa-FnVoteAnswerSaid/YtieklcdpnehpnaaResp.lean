import Derived.Test.YtieklcdpnehpnaaRows
import Derived.WalkKit
import Derived.WalkSpells
import Derived.WalkLawsBesides
import Derived.Deep.WholeRow
import Derived.Lib.Hide
namespace Go.Proofs.Ytieklcdpnehpnaa
open Go.RowKit

def respB : List Bool := [false, false, false, false, true, false, true, false, false, true, true, false, false, false, false, false, true, false, true, false, true, false, true]
def respArr : Array Value := #[.bool false, .bool false, .bool false, .bool false, .bool true, .bool false, .bool true, .bool false, .bool false, .bool true, .bool true, .bool false, .bool false, .bool false, .bool false, .bool false, .bool true, .bool false, .bool true, .bool false, .bool true, .bool false, .bool true]

set_option maxHeartbeats 400000 in
theorem arr_any (w : World) :
    Calls Try.prog 41 #[] w fun e w' => e = .returned (.agg respArr) ∧ Below w.heap.size w w' := by
  go_enter Try.func41, Try.ntmps41
  go_wp2_with (refine wpList_store_row rfl _ _ _ rfl _ _ rfl rfl _ _ (heap_alloc_new _ _) ?_ (by rfl) ?_ ?_; (kernel_rfl); (simp [Value.oneCell']))
  rw [World.setRow_alloc_new]
  exact bodyPost_ret (results_cell_row rfl _ _ _ _ _ _ _ rfl (heap_alloc_new _ _) Try.underlying76 rfl (by kernel_rfl)) rfl ⟨rfl, (Below.refl _ _).alloc (Nat.le_refl _) _⟩

set_option maxHeartbeats 400000 in
/-- one of the array's places. -/
theorem inArr (k : Int) (b n : Nat) (v : Bool) (w : World) (h0 : 0 ≤ k) (h1 : k < n) (hn : n ≤ 100) (hc : w.cell? ⟨b, k.toNat, none⟩ = some (.bool v)) :
    Calls Try.prog 42 #[.int .i32 k, .slice (some ⟨b, 0, none⟩) n n] w fun e w' => e = .returned (.bool v) ∧ w = w' := by
  obtain ⟨j, rfl⟩ := Int.eq_ofNat_of_zero_le h0
  simp at hc
  have hw : wrap64 j = j := by unfold wrap64; omega
  go_enter Try.func42, Try.ntmps42
  go_wp2
  go_ret
  exact ⟨rfl, rfl⟩

set_option maxHeartbeats 400000 in
theorem outArr (k : Int) (a : Option Addr) (n : Nat) (w : World) (h0 : (n : Int) ≤ k) (h1 : k ≤ 100) :
    Calls Try.prog 42 #[.int .i32 k, .slice a n n] w fun e w' => e = .returned (.bool false) ∧ w = w' := by
  have hlt : decide (k < (n : Int)) = false := by simp; omega
  go_enter Try.func42, Try.ntmps42
  go_wp2
  go_ret
  exact ⟨rfl, rfl⟩

def respOf (k : Int) : Bool := k == 4 || k == 6 || k == 9 || k == 10 || k == 16 || k == 18 || k == 20 || k == 22

theorem respArr_at : ∀ j : Nat, j < 23 → respArr[j]? = some (.bool (respOf j)) := by
  intro j hj
  match j, hj with
  | 0, _ | 1, _ | 2, _ | 3, _ | 4, _ | 5, _ | 6, _ | 7, _ | 8, _ | 9, _ | 10, _ | 11, _ | 12, _ | 13, _ | 14, _ | 15, _ | 16, _ | 17, _ | 18, _ | 19, _ | 20, _ | 21, _ | 22, _ => rfl
  | (n + 23), h => omega

set_option maxHeartbeats 400000 in
theorem isResp (k : Int) (w : World) (h0 : 0 ≤ k) (h1 : k ≤ 23) :
    Calls Try.prog 24 #[.int .i32 k] w fun e w' => e = .returned (.bool (respOf k)) ∧ Below w.heap.size w w' := by
  go_enter Try.func24, Try.ntmps24
  go_wp2_with (first
    | (go_at_call 41; refine (arr_any _).mono ?_; rintro e w1 ⟨rfl, hb1⟩)
    | (refine wpList_store_row rfl _ _ _ rfl _ _ rfl rfl _ _ (heap_alloc_new _ _) ?_ (by rfl) ?_ ?_; (kernel_rfl); (simp [Value.oneCell', respArr]))
    | fail)
  rw [World.setRow_alloc_new]
  by_cases hk : k < 23
  · obtain ⟨j, rfl⟩ := Int.eq_ofNat_of_zero_le h0
    refine (inArr (j : Int) _ 23 (respOf (j : Int)) _ (by omega) (by omega) (by omega) ?_).mono ?_
    · rw [cell_of_row _ _ _ respArr _ _ (heap_alloc_new _ _)]
      exact respArr_at _ (by omega)
    rintro e w' ⟨rfl, rfl⟩
    go_wp2
    go_ret
    exact ⟨rfl, (Below.trans hb1 ((Below.refl _ _).alloc hb1.size _))⟩
  · obtain rfl : k = 23 := by omega
    refine (outArr 23 _ 23 _ (by omega) (by omega)).mono ?_
    rintro e w' ⟨rfl, rfl⟩
    go_wp2
    go_ret
    exact ⟨rfl, (Below.trans hb1 ((Below.refl _ _).alloc hb1.size _))⟩

set_option maxHeartbeats 400000 in
theorem implResp (k : Int) (w : World) (h0 : 0 ≤ k) (h1 : k ≤ 23) :
    Calls Try.prog 9 #[.int .i64 k] w fun e w' => e = .returned (.bool (respOf k)) ∧ Below w.heap.size w w' := by
  go_enter Try.func9, Try.ntmps9
  go_wp2_with (go_at_call 24; refine (isResp _ _ h0 h1).mono ?_; rintro e w1 ⟨rfl, hb1⟩)
  go_ret
  exact ⟨rfl, hb1⟩

set_option maxHeartbeats 1000000 in
theorem fnResponse (k : Int) (w : World) :
    Calls Try.prog 3 #[.int .i64 k] w fun e w' => e = .returned (.bool true) ∧ Below w.heap.size w w' := by
  by_cases h0 : k < 0
  · go_enter Try.func3, Try.ntmps3
    go_wp2
    go_ret
    exact ⟨rfl, Below.refl _ _⟩
  by_cases h1 : 23 < k
  · go_enter Try.func3, Try.ntmps3
    go_wp2
    go_ret
    exact ⟨rfl, Below.refl _ _⟩
  have hr : ∀ W, Calls Try.prog 9 #[.int .i64 k] W fun e w' => e = .returned (.bool (respOf k)) ∧ Below W.heap.size W w' := fun W => implResp k W (by omega) (by omega)
  have hrO : respOf k = (k == 4 || k == 6 || k == 9 || k == 10 || k == 16 || k == 18 || k == 20 || k == 22) := rfl
  generalize hx : respOf k = r at *
  have Hx := Lib.hid hrO
  clear hrO hx
  go_enter Try.func3, Try.ntmps3
  go_wp2_with (go_at_call 9; refine (hr _).mono ?_; rintro e w1 ⟨rfl, hb1⟩)
  all_goals
    go_ret
    refine ⟨?_, hb1⟩
    have h := Hx.out
    simp_all

end Go.Proofs.Ytieklcdpnehpnaa
