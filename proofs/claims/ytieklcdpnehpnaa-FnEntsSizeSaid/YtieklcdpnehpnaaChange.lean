/-
  Changes of a configuration: plain and the package's; FnLeaves's walks.
-/
import Derived.Test.YtieklcdpnehpnaaRows
import Derived.Test.YtieklcdpnehpnaaBase
import Derived.Test.YtieklcdpnehpnaaSees
import Derived.Test.YtieklcdpnehpnaaBytes
import Derived.Test.YtieklcdpnehpnaaSingle
import Derived.Deep.RegionHeld3
set_option linter.unusedVariables false
set_option linter.unusedSimpArgs false
namespace Go.Proofs.Ytieklcdpnehpnaa
open Go.RowKit

/-- The package's changes: how, how many. -/
def ChangeP (w : World) (b : Nat) (t : Int) (n : Nat) : Prop :=
  ∃ p1 v2 v3, Blk w b #[.pointer p1, v2, v3] 98 ∧ NumP 92 .i32 w p1 t ∧ (∃ a cap, v2 = .slice a n cap)

set_option maxRecDepth 100000 in
set_option maxHeartbeats 1000000 in
theorem changeTo_any (t : Int) (a : Option Addr) (len cap : Nat) (l : List Sgl) (s : ByteArray) (w : World) (hrow : FlatRow w 2 Sgl.cells a len cap l) (hlen : len ≤ 2147483647) (ht : 0 ≤ t ∧ t ≤ 2) :
    Calls Try.prog 34 #[.agg #[.int .i64 t, .slice a len cap, .string s]] w fun e w' => ∃ b, e = .returned (Value.pointer (some ⟨b, 0, none⟩)) ∧ ChangeP w' b t len ∧ Ext w w' := by
  have X := Lib.hid hrow
  clear hrow
  have hw : IntKind.i32.wrap t = t := IntWalk.i32_in _ (by omega)
  go_enter Try.func34, Try.ntmps34
  go_wp2_with fail
  go_region_held3 (fun w' => w'.cell? ⟨w.heap.size, 0, none⟩ = some (.int .i64 t) ∧ w'.cell? ⟨w.heap.size, 1, none⟩ = some (.slice a len cap) ∧ w'.cell? ⟨w.heap.size, 2, none⟩ = some (.string s)) (go_keep)
    (first | (go_at_call 50; refine (singlesTo_any a len cap l _ (X.out.ext (by (repeat (first | with_reducible exact Ext.refl _ | with_reducible assumption | with_reducible apply Ext.alloc | with_reducible apply Ext.drew | with_reducible apply Ext.drewN | (with_reducible refine Ext.trans ?_ (by assumption)) | ((with_reducible refine Ext.set ?_ ?_ _); rotate_left; (focus (first | (simp; done) | omega | (simp; omega)))))))) hlen).mono ?_; rintro e w1 ⟨v1, xs1, rfl, ho1, -, he1⟩; obtain ⟨a1, c1, rfl⟩ := ownsRow_shape ho1; obtain ⟨hc1, -⟩ := he1.reads; have hz2 : w.heap.size < w1.heap.size := (by have := he1.size; (try simp at this); omega)) | (go_at_call 51; refine (bytesOf_any _ _).mono ?_; rintro e w2 ⟨v2, rfl, ⟨hb2, -⟩, he2⟩; obtain ⟨a2, c2, rfl⟩ := hb2.shape; obtain ⟨hc2, -⟩ := he2.reads; have hz3 : w.heap.size < w2.heap.size := (by have := he2.size; (try simp at this); omega)))
  go_wp2
  refine bodyPost_ret (results_tmp rfl _ _ _) rfl ?_
  refine ⟨_, rfl, ⟨some ⟨w.heap.size + 1, 0, none⟩, _, _, Blk.new _ _ _, NumP.set (Blk.alloc (Blk.ext (Blk.ext (Blk.drew ?_) he1) he2) _), _, _, rfl⟩, by (repeat (first | with_reducible exact Ext.refl _ | with_reducible assumption | with_reducible apply Ext.alloc | with_reducible apply Ext.drew | with_reducible apply Ext.drewN | (with_reducible refine Ext.trans ?_ (by assumption)) | ((with_reducible refine Ext.set ?_ ?_ _); rotate_left; (focus (first | (simp; done) | omega | (simp; omega))))))⟩
  simp [blk_alloc]

set_option maxHeartbeats 400000 in
theorem getTransition (b : Nat) (t : Int) (n : Nat) (w : World) (h : ChangeP w b t n) :
    Calls Try.prog 52 #[(Value.pointer (some ⟨b, 0, none⟩))] w fun e w' => e = .returned (.int .i32 t) ∧ w = w' := by
  obtain ⟨p1, v2, v3, h0, h1, -⟩ := h
  have c0 := h0.cell 0
  rcases h1 with ⟨rfl, rfl⟩ | ⟨b1, rfl, hb1⟩
  · simp at c0
    clear h0
    go_enter Try.func52, Try.ntmps52
    go_wp2
    go_ret
    exact ⟨rfl, rfl⟩
  · have c1 := hb1.cell 0
    simp at c0 c1
    clear h0 hb1
    go_enter Try.func52, Try.ntmps52
    go_wp2
    go_ret
    exact ⟨rfl, rfl⟩

set_option maxHeartbeats 400000 in
theorem getChanges (b : Nat) (t : Int) (n : Nat) (w : World) (h : ChangeP w b t n) :
    Calls Try.prog 53 #[(Value.pointer (some ⟨b, 0, none⟩))] w fun e w' => ∃ a c, e = .returned (.slice a n c) ∧ w = w' := by
  obtain ⟨p1, v2, v3, h0, h1, a, c, rfl⟩ := h
  have c0 := h0.cell 1
  simp at c0
  clear h0 h1
  go_enter Try.func53, Try.ntmps53
  go_wp2
  refine bodyPost_ret (results_tmp rfl _ _ _) rfl ?_
  exact ⟨_, _, rfl, rfl⟩

def enterB (t : Int) (n : Nat) : Bool := decide (1 < n ∨ t ≠ 0)
def autoB (t : Int) (n : Nat) : Bool := enterB t n && decide (t ≠ 2)
def leaveB (t : Int) (n : Nat) : Bool := decide (t = 0) && decide (n = 0)
def kindB (x : Sgl) : Bool := decide (0 ≤ x.kind) && decide (x.kind ≤ 3)
def rightB (t : Int) (l : List Sgl) : Bool := l.all kindB && (decide (0 ≤ t) && decide (t ≤ 2))
set_option maxHeartbeats 1000000 in
theorem enterJoint (b : Nat) (t : Int) (n : Nat) (w : World) (h : ChangeP w b t n) (hn : n ≤ 2147483647) (ht : 0 ≤ t ∧ t ≤ 2) :
    Calls Try.prog 35 #[(Value.pointer (some ⟨b, 0, none⟩))] w fun e w' => e = .returned (.tuple #[.bool (autoB t n), .bool (enterB t n)]) ∧ w = w' := by
  have X := Lib.hid h
  obtain ⟨p1, v2, v3, h0, h1, a, c, rfl⟩ := h
  have c0 := h0.cell 1
  simp at c0
  clear h0 h1
  obtain rfl | rfl | rfl : t = 0 ∨ t = 1 ∨ t = 2 := by omega
  all_goals
    by_cases h1 : 1 < n
    all_goals
      go_enter Try.func35, Try.ntmps35
      go_wp2_with (go_at_call 52; (with_reducible refine (getTransition _ _ _ _ X.out).mono ?_); rintro e w1 ⟨rfl, rfl⟩)
      go_ret2
      exact ⟨by simp [autoB, enterB, h1], rfl⟩

set_option maxHeartbeats 1000000 in
theorem leaveJoint (b : Nat) (t : Int) (n : Nat) (w : World) (h : ChangeP w b t n) (hn : n ≤ 2147483647) (ht : 0 ≤ t ∧ t ≤ 2) :
    Calls Try.prog 36 #[(Value.pointer (some ⟨b, 0, none⟩))] w fun e w' => e = .returned (.bool (leaveB t n)) ∧ w = w' := by
  have X := Lib.hid h
  clear h
  by_cases h1 : t = 0 <;> by_cases h2 : n = 0
  all_goals
    go_enter Try.func36, Try.ntmps36
    go_wp2_with (first | (go_at_call 52; (with_reducible refine (getTransition _ _ _ _ X.out).mono ?_); rintro e w1 ⟨rfl, rfl⟩) | (go_at_call 53; (with_reducible refine (getChanges _ _ _ _ X.out).mono ?_); rintro e w1 ⟨a1, c1, rfl, rfl⟩))
    go_ret
    exact ⟨by simp [leaveB, h1, h2], rfl⟩

set_option maxHeartbeats 400000 in
theorem entersJoint (t : Int) (a : Option Addr) (len cap : Nat) (l : List Sgl) (s : ByteArray) (w : World) (hrow : FlatRow w 2 Sgl.cells a len cap l) (hlen : len ≤ 2147483647) (ht : 0 ≤ t ∧ t ≤ 2) :
    Calls Try.prog 20 #[.agg #[.int .i64 t, .slice a len cap, .string s]] w fun e w' => e = .returned (.tuple #[.bool (autoB t len), .bool (enterB t len)]) ∧ Ext w w' := by
  have X := Lib.hid hrow
  clear hrow
  go_enter Try.func20, Try.ntmps20
  go_wp2_with (first | (go_at_call 34; refine (changeTo_any _ _ _ _ l _ _ (X.out.ext (by (repeat (first | with_reducible exact Ext.refl _ | with_reducible assumption | with_reducible apply Ext.alloc | with_reducible apply Ext.drew | with_reducible apply Ext.drewN | (with_reducible refine Ext.trans ?_ (by assumption)) | ((with_reducible refine Ext.set ?_ ?_ _); rotate_left; (focus (first | (simp; done) | omega | (simp; omega)))))))) hlen ht).mono ?_; rintro e w1 ⟨b1, rfl, hc1, he1⟩; have H1 := Lib.hid hc1; clear hc1) | (go_at_call 35; (with_reducible refine (enterJoint _ _ _ _ H1.out hlen ht).mono ?_); rintro e w1 ⟨rfl, rfl⟩))
  go_ret2
  exact ⟨rfl, by (repeat (first | with_reducible exact Ext.refl _ | with_reducible assumption | with_reducible apply Ext.alloc | with_reducible apply Ext.drew | with_reducible apply Ext.drewN | (with_reducible refine Ext.trans ?_ (by assumption)) | ((with_reducible refine Ext.set ?_ ?_ _); rotate_left; (focus (first | (simp; done) | omega | (simp; omega))))))⟩

set_option maxHeartbeats 400000 in
theorem leavesJoint (t : Int) (a : Option Addr) (len cap : Nat) (l : List Sgl) (s : ByteArray) (w : World) (hrow : FlatRow w 2 Sgl.cells a len cap l) (hlen : len ≤ 2147483647) (ht : 0 ≤ t ∧ t ≤ 2) :
    Calls Try.prog 21 #[.agg #[.int .i64 t, .slice a len cap, .string s]] w fun e w' => e = .returned (.bool (leaveB t len)) ∧ Ext w w' := by
  have X := Lib.hid hrow
  clear hrow
  go_enter Try.func21, Try.ntmps21
  go_wp2_with (first | (go_at_call 34; refine (changeTo_any _ _ _ _ l _ _ (X.out.ext (by (repeat (first | with_reducible exact Ext.refl _ | with_reducible assumption | with_reducible apply Ext.alloc | with_reducible apply Ext.drew | with_reducible apply Ext.drewN | (with_reducible refine Ext.trans ?_ (by assumption)) | ((with_reducible refine Ext.set ?_ ?_ _); rotate_left; (focus (first | (simp; done) | omega | (simp; omega)))))))) hlen ht).mono ?_; rintro e w1 ⟨b1, rfl, hc1, he1⟩; have H1 := Lib.hid hc1; clear hc1) | (go_at_call 36; (with_reducible refine (leaveJoint _ _ _ _ H1.out hlen ht).mono ?_); rintro e w1 ⟨rfl, rfl⟩))
  go_ret
  exact ⟨rfl, by (repeat (first | with_reducible exact Ext.refl _ | with_reducible assumption | with_reducible apply Ext.alloc | with_reducible apply Ext.drew | with_reducible apply Ext.drewN | (with_reducible refine Ext.trans ?_ (by assumption)) | ((with_reducible refine Ext.set ?_ ?_ _); rotate_left; (focus (first | (simp; done) | omega | (simp; omega))))))⟩

set_option maxHeartbeats 400000 in
theorem fits12 (t : Int) (a : Option Addr) (len cap : Nat) (s : ByteArray) (w : World) :
    Calls Try.prog 18 #[.agg #[.int .i64 t, .slice a len cap, .string s]] w fun e w' => e = .returned (.bool (decide (len ≤ 2147483647) && decide (s.size ≤ 2147483647))) ∧ Ext w w' := by
  by_cases h1 : len ≤ 2147483647 <;> by_cases h2 : s.size ≤ 2147483647
  all_goals
    go_enter Try.func18, Try.ntmps18
    go_wp2
    go_ret
    refine ⟨by simp [h1, h2], ?_⟩
    (repeat (first | with_reducible exact Ext.refl _ | with_reducible assumption | with_reducible apply Ext.alloc | with_reducible apply Ext.drew | with_reducible apply Ext.drewN | (with_reducible refine Ext.trans ?_ (by assumption)) | ((with_reducible refine Ext.set ?_ ?_ _); rotate_left; (focus (first | (simp; done) | omega | (simp; omega))))))

set_option maxRecDepth 100000 in
set_option maxHeartbeats 1000000 in
theorem rightChange_any (t : Int) (a : Option Addr) (len cap : Nat) (l : List Sgl) (s : ByteArray) (w : World) (hrow : FlatRow w 2 Sgl.cells a len cap l) (hlen : len ≤ 2147483647) :
    Calls Try.prog 19 #[.agg #[.int .i64 t, .slice a len cap, .string s]] w fun e w' => e = .returned (.bool (rightB t l)) ∧ Ext w w' := by
  have X := Lib.hid hrow
  clear hrow
  go_enter Try.func19, Try.ntmps19
  go_wp2
  go_loopw [8] (fun i wr => ∃ (k : Nat), k ≤ len ∧ i = .int .i64 k ∧ (l.take k).all kindB = true ∧ Ext (w.alloc (.cells #[.int .i64 t, .slice a len cap, .string s] 44)) wr) (fun i _ => len - (intOf i).toNat)
  case atStart => exact ⟨0, Nat.zero_le _, rfl, rfl, Ext.refl _⟩
  case round =>
    obtain ⟨k, hk, rfl, hall, hext⟩ := hrel
    have hc := hext.cellAt (b := w.heap.size) (o := 0) (v := .int .i64 t) (by simp)
    by_cases hlt : k < len
    · obtain ⟨y, b, off, hy, rfl, hcell⟩ := X.out.get hlt
      have c0 : wr.cell? ⟨b, off + k * 2, none⟩ = some (.int .i64 y.kind) := (((Ext.refl w).alloc _).trans hext).cellAt (hcell 0 _ rfl)
      have c1 : wr.cell? ⟨b, off + k * 2 + 1, none⟩ = some (.int .u64 y.node) := (((Ext.refl w).alloc _).trans hext).cellAt (hcell 1 _ rfl)
      have Z := Lib.hid (And.intro hall hy)
      clear hall hcell hy
      go_wp2
      all_goals first
        | (go_roundw; (case rel => exact ⟨k + 1, by omega, by go_num, by rw [take_succ_of Z.out.2, List.all_append, Z.out.1]; simp [kindB]; omega, by (repeat (first | with_reducible exact Ext.refl _ | with_reducible assumption | with_reducible apply Ext.alloc | with_reducible apply Ext.drew | with_reducible apply Ext.drewN | (with_reducible refine Ext.trans ?_ (by assumption)) | ((with_reducible refine Ext.set ?_ ?_ _); rotate_left; (focus (first | (simp; done) | omega | (simp; omega))))))⟩); (case measure => simp [intOf]; omega))
        | (refine bodyPost_ret (results_tmp rfl _ _ _) rfl ?_; refine ⟨?_, ?_⟩; (have hf : rightB t l = false := by (unfold rightB; rw [all_false_of Z.out.2 (by simp [kindB]; omega)]; rfl)); (rw [hf]; rfl); (repeat (first | with_reducible exact Ext.refl _ | with_reducible assumption | with_reducible apply Ext.alloc | with_reducible apply Ext.drew | with_reducible apply Ext.drewN | (with_reducible refine Ext.trans ?_ (by assumption)) | ((with_reducible refine Ext.set ?_ ?_ _); rotate_left; (focus (first | (simp; done) | omega | (simp; omega)))))))
    · have hkl : k = len := by omega
      subst hkl
      have hl := X.out.length
      rw [List.take_of_length_le (by omega)] at hall
      have Z := Lib.hid hall
      clear hall hl
      by_cases h1 : 0 ≤ t <;> by_cases h2 : t ≤ 2
      all_goals first
        | (exfalso; omega)
        | (go_wp2
           refine bodyPost_ret (results_tmp rfl _ _ _) rfl ?_
           refine ⟨?_, ?_⟩
           · simp [rightB, Z.out, h1, h2]
           · (repeat (first | with_reducible exact Ext.refl _ | with_reducible assumption | with_reducible apply Ext.alloc | with_reducible apply Ext.drew | with_reducible apply Ext.drewN | (with_reducible refine Ext.trans ?_ (by assumption)) | ((with_reducible refine Ext.set ?_ ?_ _); rotate_left; (focus (first | (simp; done) | omega | (simp; omega)))))))

set_option maxHeartbeats 1000000 in
theorem fnLeaves (t : Int) (a : Option Addr) (len cap : Nat) (l : List Sgl) (s : ByteArray) (w : World) (hrow : FlatRow w 2 Sgl.cells a len cap l) :
    Calls Try.prog 7 #[.agg #[.int .i64 t, .slice a len cap, .string s]] w fun e w' => e = .returned (.bool true) ∧ Ext w w' := by
  have X := Lib.hid hrow
  clear hrow
  by_cases hf : (decide (len ≤ 2147483647) && decide (s.size ≤ 2147483647)) = true
  · have hlen : len ≤ 2147483647 := by simp at hf; exact hf.1
    by_cases hr : rightB t l = true
    · have ht : 0 ≤ t ∧ t ≤ 2 := by simp [rightB] at hr; exact hr.2
      obtain ⟨v1, v2, v3, q1, q2, q3, qa, qb, qc, qd⟩ : ∃ v1 v2 v3 : Bool, autoB t len = v1 ∧ enterB t len = v2 ∧ leaveB t len = v3 ∧ ((len : Int) == 0 && t == 0) = v3 ∧ (v3 = true → v2 = false) ∧ (v2 = false → v1 = false) ∧ (v3 = true → (len : Int) = 0) := by
        refine ⟨autoB t len, enterB t len, leaveB t len, rfl, rfl, rfl, ?_, ?_, ?_, ?_⟩
        all_goals simp [autoB, enterB, leaveB]
        · rw [Bool.eq_iff_iff]; simp; omega
        all_goals omega
      have hq : (t == 0) = true ∨ (t == 0) = false := by cases (t == 0) <;> simp
      have hq2 : ((len : Int) == 0) = true ∨ ((len : Int) == 0) = false := by cases ((len : Int) == 0) <;> simp
      have Q := Lib.hid (And.intro qa (And.intro qb (And.intro qc qd)))
      have HT := Lib.hid ht
      clear qa qb qc qd ht
      rcases hq with hq | hq <;> rcases hq2 with hq2 | hq2 <;> cases v1 <;> cases v2 <;> cases v3
      all_goals first
        | (exfalso; have h := Q.out; simp [hq, hq2] at h; done)
        | (go_enter Try.func7, Try.ntmps7
           go_wp2_with (first
            | (go_at_call 18; refine (fits12 _ _ _ _ _ _).mono ?_; rintro e w1 ⟨rfl, he1⟩; rw [hf]; obtain ⟨r1, -⟩ := he1.reads)
            | (go_at_call 19; refine (rightChange_any _ _ _ _ l _ _ (X.out.ext (by (repeat (first | with_reducible exact Ext.refl _ | with_reducible assumption | with_reducible apply Ext.alloc | with_reducible apply Ext.drew | with_reducible apply Ext.drewN | (with_reducible refine Ext.trans ?_ (by assumption)) | ((with_reducible refine Ext.set ?_ ?_ _); rotate_left; (focus (first | (simp; done) | omega | (simp; omega)))))))) hlen).mono ?_; rintro e w2 ⟨rfl, he2⟩; rw [hr]; obtain ⟨r2, -⟩ := he2.reads; have z2 : w.heap.size < w1.heap.size := (by have := he1.size; simp at this; omega))
            | (go_at_call 20; refine (entersJoint _ _ _ _ l _ _ (X.out.ext (by (repeat (first | with_reducible exact Ext.refl _ | with_reducible assumption | with_reducible apply Ext.alloc | with_reducible apply Ext.drew | with_reducible apply Ext.drewN | (with_reducible refine Ext.trans ?_ (by assumption)) | ((with_reducible refine Ext.set ?_ ?_ _); rotate_left; (focus (first | (simp; done) | omega | (simp; omega)))))))) hlen HT.out).mono ?_; rintro e w3 ⟨rfl, he3⟩; rw [q1, q2]; obtain ⟨r3, -⟩ := he3.reads; have z3 : w.heap.size < w2.heap.size := (by have := he2.size; omega))
            | (go_at_call 21; refine (leavesJoint _ _ _ _ l _ _ (X.out.ext (by (repeat (first | with_reducible exact Ext.refl _ | with_reducible assumption | with_reducible apply Ext.alloc | with_reducible apply Ext.drew | with_reducible apply Ext.drewN | (with_reducible refine Ext.trans ?_ (by assumption)) | ((with_reducible refine Ext.set ?_ ?_ _); rotate_left; (focus (first | (simp; done) | omega | (simp; omega)))))))) hlen HT.out).mono ?_; rintro e w4 ⟨rfl, he4⟩; rw [q3]; obtain ⟨r4, -⟩ := he4.reads; have z4 : w.heap.size < w3.heap.size := (by have := he3.size; omega)))
           go_ret
           refine ⟨rfl, ?_⟩
           (repeat (first | with_reducible exact Ext.refl _ | with_reducible assumption | with_reducible apply Ext.alloc | with_reducible apply Ext.drew | with_reducible apply Ext.drewN | (with_reducible refine Ext.trans ?_ (by assumption)) | ((with_reducible refine Ext.set ?_ ?_ _); rotate_left; (focus (first | (simp; done) | omega | (simp; omega)))))))
    · have hr' : rightB t l = false := by simpa using hr
      go_enter Try.func7, Try.ntmps7
      go_wp2_with (first
        | (go_at_call 18; refine (fits12 _ _ _ _ _ _).mono ?_; rintro e w1 ⟨rfl, he1⟩; rw [hf]; obtain ⟨r1, -⟩ := he1.reads)
        | (go_at_call 19; refine (rightChange_any _ _ _ _ l _ _ (X.out.ext (by (repeat (first | with_reducible exact Ext.refl _ | with_reducible assumption | with_reducible apply Ext.alloc | with_reducible apply Ext.drew | with_reducible apply Ext.drewN | (with_reducible refine Ext.trans ?_ (by assumption)) | ((with_reducible refine Ext.set ?_ ?_ _); rotate_left; (focus (first | (simp; done) | omega | (simp; omega)))))))) hlen).mono ?_; rintro e w2 ⟨rfl, he2⟩; rw [hr']))
      go_ret
      exact ⟨rfl, by (repeat (first | with_reducible exact Ext.refl _ | with_reducible assumption | with_reducible apply Ext.alloc | with_reducible apply Ext.drew | with_reducible apply Ext.drewN | (with_reducible refine Ext.trans ?_ (by assumption)) | ((with_reducible refine Ext.set ?_ ?_ _); rotate_left; (focus (first | (simp; done) | omega | (simp; omega))))))⟩
  · have hf' : (decide (len ≤ 2147483647) && decide (s.size ≤ 2147483647)) = false := by simpa using hf
    go_enter Try.func7, Try.ntmps7
    go_wp2_with (go_at_call 18; refine (fits12 _ _ _ _ _ _).mono ?_; rintro e w1 ⟨rfl, he1⟩; rw [hf'])
    go_ret
    exact ⟨rfl, by (repeat (first | with_reducible exact Ext.refl _ | with_reducible assumption | with_reducible apply Ext.alloc | with_reducible apply Ext.drew | with_reducible apply Ext.drewN | (with_reducible refine Ext.trans ?_ (by assumption)) | ((with_reducible refine Ext.set ?_ ?_ _); rotate_left; (focus (first | (simp; done) | omega | (simp; omega))))))⟩

/-- The argument of FnLeaves, as its shell finds it. -/
def ChangeV (w : World) (v : Value) (x : Int × List Sgl × ByteArray) : Prop := ∃ a len cap, v = .agg #[.int .i64 x.1, .slice a len cap, .string x.2.2] ∧ FlatRow w 2 Sgl.cells a len cap x.2.1

theorem fnLeavesV (v : Value) (x : Int × List Sgl × ByteArray) (w : World) (hv : ChangeV w v x) :
    Calls Try.prog 7 #[v] w fun e w' => e = .returned (.bool true) ∧ Ext w w' := by
  obtain ⟨a, len, cap, rfl, hr⟩ := hv
  exact fnLeaves _ _ _ _ _ _ w hr
end Go.Proofs.Ytieklcdpnehpnaa
