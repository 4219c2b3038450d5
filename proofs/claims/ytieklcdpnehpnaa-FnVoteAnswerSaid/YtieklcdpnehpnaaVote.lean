/-
  FnVoteAnswer's walks.
-/
import Derived.Test.YtieklcdpnehpnaaRows
import Derived.Test.YtieklcdpnehpnaaBase
import Derived.Test.YtieklcdpnehpnaaResp
import Derived.Test.YtieklcdpnehpnaaGuard
import Derived.Deep.QuietTactic
import Derived.BigQuiet
namespace Go.Proofs.Ytieklcdpnehpnaa
open Go.RowKit

def localArr : Array Value := #[.bool true, .bool true, .bool false, .bool false, .bool false, .bool false, .bool false, .bool false, .bool false, .bool false, .bool true, .bool true, .bool true, .bool false, .bool false, .bool false, .bool false, .bool false, .bool false, .bool true, .bool true, .bool true, .bool true]

set_option maxHeartbeats 400000 in
theorem localArr_any (w : World) :
    Calls Try.prog 56 #[] w fun e w' => e = .returned (.agg localArr) ∧ Below w.heap.size w w' := by
  go_enter Try.func56, Try.ntmps56
  go_wp2_with (refine wpList_store_row rfl _ _ _ rfl _ _ rfl rfl _ _ (heap_alloc_new _ _) ?_ (by rfl) ?_ ?_; (kernel_rfl); (simp [Value.oneCell']))
  rw [World.setRow_alloc_new]
  exact bodyPost_ret (results_cell_row rfl _ _ _ _ _ _ _ rfl (heap_alloc_new _ _) Try.underlying76 rfl (by kernel_rfl)) rfl ⟨rfl, (Below.refl _ _).alloc (Nat.le_refl _) _⟩

set_option maxHeartbeats 400000 in
theorem isLocal (k : Int) (v : Bool) (w : World) (h0 : 0 ≤ k) (h1 : k < 23) (hv : localArr[k.toNat]? = some (.bool v)) :
    Calls Try.prog 40 #[.int .i32 k] w fun e w' => e = .returned (.bool v) ∧ Below w.heap.size w w' := by
  go_enter Try.func40, Try.ntmps40
  go_wp2_with (first
    | (go_at_call 56; refine (localArr_any _).mono ?_; rintro e w1 ⟨rfl, hb1⟩)
    | (refine wpList_store_row rfl _ _ _ rfl _ _ rfl rfl _ _ (heap_alloc_new _ _) ?_ (by rfl) ?_ ?_; (kernel_rfl); (simp [Value.oneCell', localArr]))
    | fail)
  rw [World.setRow_alloc_new]
  refine (inArr k _ 23 v _ h0 (by omega) (by omega) ?_).mono ?_
  · rw [cell_of_row _ _ _ localArr _ _ (heap_alloc_new _ _)]
    exact hv
  rintro e w' ⟨rfl, rfl⟩
  go_wp2
  go_ret
  exact ⟨rfl, (Below.trans hb1 ((Below.refl _ _).alloc hb1.size _))⟩

set_option maxHeartbeats 400000 in
theorem implLocal (k : Int) (v : Bool) (w : World) (h0 : 0 ≤ k) (h1 : k < 23) (hv : localArr[k.toNat]? = some (.bool v)) :
    Calls Try.prog 23 #[.int .i64 k] w fun e w' => e = .returned (.bool v) ∧ Below w.heap.size w w' := by
  go_enter Try.func23, Try.ntmps23
  go_wp2_with (go_at_call 40; refine (isLocal _ v _ h0 h1 hv).mono ?_; rintro e w1 ⟨rfl, hb1⟩)
  go_ret
  exact ⟨rfl, hb1⟩

def answerOf (k : Int) : Int := if k = 5 then 6 else 18

set_option maxHeartbeats 400000 in
theorem voteType (k : Int) (w : World) (hk : k = 5 ∨ k = 17) :
    Calls Try.prog 39 #[.int .i32 k] w fun e w' => e = .returned (.int .i32 (answerOf k)) ∧ w = w' := by
  rcases hk with rfl | rfl
  all_goals
    go_enter Try.func39, Try.ntmps39
    go_wp2
    go_ret
    exact ⟨rfl, rfl⟩

set_option maxHeartbeats 400000 in
theorem voteClosure (k : Int) (b1 b2 : Nat) (w : World) (hk : k = 5 ∨ k = 17) (h1 : Blk w b1 #[.int .i64 k] 3) (h2 : Blk w b2 #[.int .i64 (-1)] 3) :
    Calls Try.prog 38 #[.pointer (some ⟨b1, 0, none⟩), .pointer (some ⟨b2, 0, none⟩)] w fun e w' => e = .returned (.tuple #[]) ∧ w' = w.setCell ⟨b2, 0, none⟩ (.int .i64 (answerOf k)) := by
  have c1 := h1.cell 0
  have c2 := h2.cell 0
  have f2 := h2.free 0
  simp at c1 c2
  clear h1 h2
  rcases hk with rfl | rfl
  all_goals
    go_enter Try.func38, Try.ntmps38
    go_wp2_with (go_at_call 39; refine (voteType _ _ (by simp)).mono ?_; rintro e w1 ⟨rfl, rfl⟩; simp only [answerOf]; simp)
    go_end0
    exact ⟨rfl, by simp [answerOf]⟩

set_option maxHeartbeats 400000 in
theorem voteAnswer (k : Int) (w : World) (hk : k = 5 ∨ k = 17) :
    Calls Try.prog 22 #[.int .i64 k] w fun e w' => e = .returned (.int .i64 (answerOf k)) ∧ Ext w w' := by
  have hmf : ∀ (fn : Fn) (first cap : Array Value) (w : World), (Instr.makeFunc fn first cap).run Try.prog w = .ok (.func fn first cap) w := fun _ _ _ _ => rfl
  go_enter Try.func22, Try.ntmps22
  go_wp2_with fail
  refine (guarded_any 38 _ _ (fun b w1 => b = false ∧ Ext w w1 ∧ Blk w1 (w.heap.size + 1) #[.int .i64 (answerOf k)] 3) (fun W => by simp [go_sem]) ?_).mono ?_
  · refine (voteClosure k w.heap.size (w.heap.size + 1) _ hk ?_ ?_).mono ?_
    · simp [blk_alloc]
    · simp [blk_alloc]
    · rintro e w' ⟨rfl, rfl⟩
      refine ⟨?_, .inl ⟨_, rfl, rfl, ?_, ?_⟩⟩
      · refine Blk.setOther ?_ (by simp) _
        simp [blk_alloc]
      · exact ((((Ext.refl _).alloc _).alloc _).alloc _).set (by simp) _
      · have h : Blk (((w.alloc (.cells #[.int .i64 k] 3)).alloc (.cells #[.int .i64 (-1)] 3)).alloc (.cells #[.bool false] 4)) (w.heap.size + 1) #[.int .i64 (-1)] 3 := by simp [blk_alloc]
        exact h.set 0 _
  · rintro e w1 ⟨b, rfl, rfl, hx, hb⟩
    have hc := hb.cell 0
    simp at hc
    go_wp2
    go_ret
    exact ⟨rfl, hx⟩

set_option maxHeartbeats 1000000 in
theorem fnVoteAnswer (pre : Bool) (w : World) :
    Calls Try.prog 8 #[.bool pre] w fun e w' => e = .returned (.bool true) ∧ Ext w w' := by
  cases pre
  all_goals
    go_enter Try.func8, Try.ntmps8
    go_wp2_with (first
      | (go_at_call 22; (with_reducible refine (voteAnswer _ _ (by simp)).mono ?_); rintro e w1 ⟨rfl, hx1⟩; simp only [answerOf]; simp)
      | (go_at_call 9; (with_reducible refine (implResp _ _ (by omega) (by omega)).mono ?_); rintro e w1 ⟨rfl, hx1⟩; simp only [respOf]; simp)
      | (go_at_call 23; refine (implLocal _ false _ (by omega) (by omega) (by simp [localArr])).mono ?_; rintro e w1 ⟨rfl, hx1⟩))
    go_ret
    refine ⟨rfl, ?_⟩
    (repeat (first | exact Ext.refl _ | assumption | apply Ext.alloc | apply Ext.drew | apply Ext.drewN | (refine Ext.trans ?_ (by assumption))))

end Go.Proofs.Ytieklcdpnehpnaa
