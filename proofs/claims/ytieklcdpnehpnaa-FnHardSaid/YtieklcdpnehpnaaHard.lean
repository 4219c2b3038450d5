import Derived.Test.YtieklcdpnehpnaaRows
import Derived.Test.YtieklcdpnehpnaaBase
import Derived.Deep.RegionHeld3
import Derived.Deep.QuietTactic
import Derived.BigQuiet
namespace Go.Proofs.Ytieklcdpnehpnaa
open Go.RowKit

/-- The block of a package's hard state. -/
def HardP (w : World) (b : Nat) (t v c : Int) : Prop :=
  ∃ p1 p2 p3, Blk w b #[.pointer p1, .pointer p2, .pointer p3] 82 ∧ NumP 23 .u64 w p1 t ∧ NumP 23 .u64 w p2 v ∧ NumP 23 .u64 w p3 c

theorem HardP.ext {w w' : World} {b : Nat} {t v c : Int} (h : HardP w b t v c) (e : Ext w w') : HardP w' b t v c := by
  obtain ⟨b1, b2, b3, h0, h1, h2, h3⟩ := h
  exact ⟨b1, b2, b3, h0.ext e, h1.ext e, h2.ext e, h3.ext e⟩

set_option maxHeartbeats 400000 in
theorem hardTo_any (t v c : Int) (w : World) :
    Calls Try.prog 26 #[.agg #[.int .u64 t, .int .u64 v, .int .u64 c]] w fun e w' => ∃ b, e = .returned (.pointer (some ⟨b, 0, none⟩)) ∧ w.heap.size ≤ b ∧ HardP w' b t v c ∧ Ext w w' := by
  go_enter Try.func26, Try.ntmps26
  go_wp2
  refine bodyPost_ret (results_tmp rfl _ _ _) rfl ?_
  refine ⟨_, rfl, ?_, ⟨some ⟨w.heap.size + 1, 0, none⟩, some ⟨w.heap.size + 1 + 1, 0, none⟩, some ⟨w.heap.size + 1 + 1 + 1, 0, none⟩, ?_, NumP.set ?_, NumP.set ?_, NumP.set ?_⟩, (((((Ext.refl _).alloc _).alloc _).alloc _).alloc _).alloc _⟩
  · omega
  all_goals simp [blk_alloc]


set_option maxHeartbeats 400000 in
theorem getTerm (b : Nat) (t v c : Int) (w : World) (h : HardP w b t v c) :
    Calls Try.prog 57 #[.pointer (some ⟨b, 0, none⟩)] w fun e w' => e = .returned (.int .u64 t) ∧ w = w' := by
  obtain ⟨p1, p2, p3, h0, h1, h2, h3⟩ := h
  have c0 := h0.cell 0
  rcases h1 with ⟨rfl, rfl⟩ | ⟨b1, rfl, hb1⟩
  · simp at c0
    clear h0 h2 h3
    go_enter Try.func57, Try.ntmps57
    go_wp2
    go_ret
    exact ⟨rfl, rfl⟩
  · have c1 := hb1.cell 0
    simp at c0 c1
    clear h0 hb1 h2 h3
    go_enter Try.func57, Try.ntmps57
    go_wp2
    go_ret
    exact ⟨rfl, rfl⟩

set_option maxHeartbeats 400000 in
theorem getVote (b : Nat) (t v c : Int) (w : World) (h : HardP w b t v c) :
    Calls Try.prog 58 #[.pointer (some ⟨b, 0, none⟩)] w fun e w' => e = .returned (.int .u64 v) ∧ w = w' := by
  obtain ⟨p1, p2, p3, h0, h1, h2, h3⟩ := h
  have c0 := h0.cell 1
  rcases h2 with ⟨rfl, rfl⟩ | ⟨b1, rfl, hb1⟩
  · simp at c0
    clear h0 h1 h3
    go_enter Try.func58, Try.ntmps58
    go_wp2
    go_ret
    exact ⟨rfl, rfl⟩
  · have c1 := hb1.cell 0
    simp at c0 c1
    clear h0 hb1 h1 h3
    go_enter Try.func58, Try.ntmps58
    go_wp2
    go_ret
    exact ⟨rfl, rfl⟩

set_option maxHeartbeats 400000 in
theorem getCommit (b : Nat) (t v c : Int) (w : World) (h : HardP w b t v c) :
    Calls Try.prog 59 #[.pointer (some ⟨b, 0, none⟩)] w fun e w' => e = .returned (.int .u64 c) ∧ w = w' := by
  obtain ⟨p1, p2, p3, h0, h1, h2, h3⟩ := h
  have c0 := h0.cell 2
  rcases h3 with ⟨rfl, rfl⟩ | ⟨b1, rfl, hb1⟩
  · simp at c0
    clear h0 h1 h2
    go_enter Try.func59, Try.ntmps59
    go_wp2
    go_ret
    exact ⟨rfl, rfl⟩
  · have c1 := hb1.cell 0
    simp at c0 c1
    clear h0 hb1 h1 h2
    go_enter Try.func59, Try.ntmps59
    go_wp2
    go_ret
    exact ⟨rfl, rfl⟩

def eqHard (t v c t' v' c' : Int) : Bool := t == t' && v == v' && c == c'

set_option maxHeartbeats 400000 in
theorem hardEq (b b' : Nat) (t v c t' v' c' : Int) (w : World) (h : HardP w b t v c) (h' : HardP w b' t' v' c') :
    Calls Try.prog 43 #[.pointer (some ⟨b, 0, none⟩), .pointer (some ⟨b', 0, none⟩)] w fun e w' => e = .returned (.bool (eqHard t v c t' v' c')) ∧ w = w' := by
  have X := Lib.hid h
  have X' := Lib.hid h'
  clear h h'
  go_enter Try.func43, Try.ntmps43
  go_wp2_with (first
    | (go_at_call 57; (first | (with_reducible refine (getTerm b _ _ _ _ X.out).mono ?_) | (with_reducible refine (getTerm b' _ _ _ _ X'.out).mono ?_)); rintro e w' ⟨rfl, rfl⟩)
    | (go_at_call 58; (first | (with_reducible refine (getVote b _ _ _ _ X.out).mono ?_) | (with_reducible refine (getVote b' _ _ _ _ X'.out).mono ?_)); rintro e w' ⟨rfl, rfl⟩)
    | (go_at_call 59; (first | (with_reducible refine (getCommit b _ _ _ _ X.out).mono ?_) | (with_reducible refine (getCommit b' _ _ _ _ X'.out).mono ?_)); rintro e w' ⟨rfl, rfl⟩))
  all_goals
    refine bodyPost_ret (results_tmp rfl _ _ _) rfl ?_
    simp_all [eqHard]

set_option maxHeartbeats 400000 in
theorem zzEq (b b' : Nat) (t v c t' v' c' : Int) (w : World) (h : HardP w b t v c) (h' : HardP w b' t' v' c') :
    Calls Try.prog 25 #[.pointer (some ⟨b, 0, none⟩), .pointer (some ⟨b', 0, none⟩)] w fun e w' => e = .returned (.bool (eqHard t v c t' v' c')) ∧ w = w' := by
  have X := Lib.hid h
  have X' := Lib.hid h'
  clear h h'
  go_enter Try.func25, Try.ntmps25
  go_wp2_with (go_at_call 43; (with_reducible refine (hardEq b b' _ _ _ _ _ _ _ X.out X'.out).mono ?_); rintro e w' ⟨rfl, rfl⟩)
  go_ret
  exact ⟨rfl, rfl⟩

set_option maxHeartbeats 400000 in
theorem sameHard (t v c t' v' c' : Int) (w : World) :
    Calls Try.prog 10 #[.agg #[.int .u64 t, .int .u64 v, .int .u64 c], .agg #[.int .u64 t', .int .u64 v', .int .u64 c']] w fun e w' => e = .returned (.bool (eqHard t v c t' v' c')) ∧ Ext w w' := by
  go_enter Try.func10, Try.ntmps10
  go_wp2_with fail
  go_region_held3 (fun w' => w'.cell? ⟨w.heap.size, 0, none⟩ = some (.int .u64 t) ∧ w'.cell? ⟨w.heap.size, 1, none⟩ = some (.int .u64 v) ∧ w'.cell? ⟨w.heap.size, 2, none⟩ = some (.int .u64 c) ∧
     w'.cell? ⟨w.heap.size + 1, 0, none⟩ = some (.int .u64 t') ∧ w'.cell? ⟨w.heap.size + 1, 1, none⟩ = some (.int .u64 v') ∧ w'.cell? ⟨w.heap.size + 1, 2, none⟩ = some (.int .u64 c')) (go_keep)
    (first | (go_at_call 26; (with_reducible refine (hardTo_any _ _ _ _).mono ?_); rintro e w1 ⟨b1, rfl, hb1, hp1, he1⟩; obtain ⟨hc1, -⟩ := he1.reads; have hz1 : w.heap.size + 1 < w1.heap.size := (by have := he1.size; (try simp at this); omega); have hz2 : w.heap.size < w1.heap.size := (by omega)) | (go_at_call 25; (with_reducible refine (zzEq _ _ _ _ _ _ _ _ _ (HardP.ext (by assumption) he1) hp1).mono ?_); rintro e w' ⟨rfl, rfl⟩))
  go_wp2
  go_ret
  refine ⟨rfl, ?_⟩
  (repeat (first | exact Ext.refl _ | assumption | apply Ext.alloc | apply Ext.drew | apply Ext.drewN | (refine Ext.trans ?_ (by assumption))))

set_option maxHeartbeats 400000 in
theorem emptyState_any (w : World) :
    Calls Try.prog 44 #[] w fun e w' => ∃ b, e = .returned (.pointer (some ⟨b, 0, none⟩)) ∧ HardP w' b 0 0 0 ∧ Ext w w' := by
  go_enter Try.func44, Try.ntmps44
  go_wp2
  refine bodyPost_ret (results_tmp rfl _ _ _) rfl ?_
  exact ⟨_, rfl, ⟨none, none, none, Blk.new _ _ _, NumP.nil, NumP.nil, NumP.nil⟩, (Ext.refl _).alloc _⟩

set_option maxHeartbeats 400000 in
theorem isEmptyHard (b : Nat) (t v c : Int) (w : World) (h : HardP w b t v c) :
    Calls Try.prog 27 #[.pointer (some ⟨b, 0, none⟩)] w fun e w' => e = .returned (.bool (eqHard t v c 0 0 0)) ∧ Ext w w' := by
  have X := Lib.hid h
  clear h
  go_enter Try.func27, Try.ntmps27
  go_wp2_with (first | (go_at_call 44; (with_reducible refine (emptyState_any _).mono ?_); rintro e w1 ⟨b1, rfl, hp1, he1⟩) | (go_at_call 43; (with_reducible refine (hardEq _ _ _ _ _ _ _ _ _ (X.out.ext he1) hp1).mono ?_); rintro e w' ⟨rfl, rfl⟩))
  go_ret
  exact ⟨rfl, he1⟩

set_option maxHeartbeats 400000 in
theorem emptyHard (t v c : Int) (w : World) :
    Calls Try.prog 11 #[.agg #[.int .u64 t, .int .u64 v, .int .u64 c]] w fun e w' => e = .returned (.bool (eqHard t v c 0 0 0)) ∧ Ext w w' := by
  go_enter Try.func11, Try.ntmps11
  go_wp2_with (first | (go_at_call 26; (with_reducible refine (hardTo_any _ _ _ _).mono ?_); rintro e w1 ⟨b1, rfl, hb1, hp1, he1⟩) | (go_at_call 27; (with_reducible refine (isEmptyHard _ _ _ _ _ hp1).mono ?_); rintro e w' ⟨rfl, he2⟩))
  go_ret
  refine ⟨rfl, ?_⟩
  (repeat (first | exact Ext.refl _ | assumption | apply Ext.alloc | apply Ext.drew | apply Ext.drewN | (refine Ext.trans ?_ (by assumption))))

theorem eqHardRun (t v c t' v' c' : Int) (w : World) : (binOp .eql 25 (.agg #[.int .u64 t, .int .u64 v, .int .u64 c]) (.agg #[.int .u64 t', .int .u64 v', .int .u64 c'])).run Try.prog w = .ok (.bool (eqHard t v c t' v' c')) w := by
  simp [go_sem]
  by_cases h1 : t = t' <;> by_cases h2 : v = v' <;> by_cases h3 : c = c' <;> simp [h1, h2, h3, eqHard]

set_option maxHeartbeats 1000000 in
theorem fnHard (t v c t' v' c' : Int) (w : World) :
    Calls Try.prog 4 #[.agg #[.int .u64 t, .int .u64 v, .int .u64 c], .agg #[.int .u64 t', .int .u64 v', .int .u64 c']] w fun e w' => e = .returned (.bool true) ∧ Ext w w' := by
  have q1 := fun W => eqHardRun t v c t' v' c' W
  have q2 := fun W => eqHardRun t v c 0 0 0 W
  have q3 : eqHard t v c t v c = true := by simp [eqHard]
  have q4 : eqHard 0 0 0 0 0 0 = true := rfl
  go_enter Try.func4, Try.ntmps4
  go_wp2_with fail
  go_region_held3 (fun w' => w'.cell? ⟨w.heap.size, 0, none⟩ = some (.int .u64 t) ∧ w'.cell? ⟨w.heap.size, 1, none⟩ = some (.int .u64 v) ∧ w'.cell? ⟨w.heap.size, 2, none⟩ = some (.int .u64 c) ∧
     w'.cell? ⟨w.heap.size + 1, 0, none⟩ = some (.int .u64 t') ∧ w'.cell? ⟨w.heap.size + 1, 1, none⟩ = some (.int .u64 v') ∧ w'.cell? ⟨w.heap.size + 1, 2, none⟩ = some (.int .u64 c')) (go_keep)
    (first | (go_at_call 10; (with_reducible refine (sameHard _ _ _ _ _ _ _).mono ?_); rintro e w1 ⟨rfl, he1⟩; obtain ⟨hc1, -⟩ := he1.reads; have hz1 : w.heap.size + 1 < w1.heap.size := (by have := he1.size; (try simp at this); omega); have hz2 : w.heap.size < w1.heap.size := (by omega)) | (go_at_call 11; (with_reducible refine (emptyHard _ _ _ _).mono ?_); rintro e w1 ⟨rfl, he1⟩; obtain ⟨hc1, -⟩ := he1.reads; have hz1 : w.heap.size + 1 < w1.heap.size := (by have := he1.size; (try simp at this); omega); have hz2 : w.heap.size < w1.heap.size := (by omega)))
  go_wp2
  go_ret
  refine ⟨rfl, ?_⟩
  (repeat (first | exact Ext.refl _ | assumption | apply Ext.alloc | apply Ext.drew | apply Ext.drewN | (refine Ext.trans ?_ (by assumption))))

/-- as the shell asks it -/
theorem fnHardV (v : Value) (x : Int × Int × Int) (hv : v = .agg #[.int .u64 x.1, .int .u64 x.2.1, .int .u64 x.2.2]) (v' : Value) (x' : Int × Int × Int) (hv' : v' = .agg #[.int .u64 x'.1, .int .u64 x'.2.1, .int .u64 x'.2.2]) (w : World) :
    Calls Try.prog 4 #[v, v'] w fun e w' => e = .returned (.bool true) ∧ Ext w w' := by
  subst hv hv'
  exact fnHard _ _ _ _ _ _ w

end Go.Proofs.Ytieklcdpnehpnaa
