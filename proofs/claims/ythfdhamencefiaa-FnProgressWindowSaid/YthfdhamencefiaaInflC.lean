/-
  Inflights: all are freed; a clone.
-/
import Derived.Test.YthfdhamencefiaaRows
import Derived.Test.YthfdhamencefiaaBase
import Derived.Test.YthfdhamencefiaaSees
import Derived.Test.YthfdhamencefiaaCopy
import Derived.Test.YthfdhamencefiaaInfl
import Derived.Test.YthfdhamencefiaaInflG
import Derived.Test.YthfdhamencefiaaInflF
import Derived.Laws.AppendOwnNone
set_option linter.unusedVariables false
set_option linter.unusedSimpArgs false
namespace Go.Proofs.Ythfdhamencefiaa
open Go.RowKit

theorem Blk.grown {w w' : World} {b : Nat} {c : Array Value} {t : TypeId} {row : Option Nat} (h : Blk w b c t) (hg : w.grownBy w' row) (hr : row ≠ some b) : Blk w' b c t := (hg.block b h.lt (fun e => hr e.symm)).trans h
theorem RingRow.of_owns {w : World} {base : Nat} {v : Value} {R : List (Int × Int)} (h : w.ownsRow base 103 2 v R.length (R.flatMap flC)) : RingRow w v R ∧ ∀ k, v.ownBlock = some k → base ≤ k := by
  refine ⟨?_, fun k hk => (h.lt k hk).1⟩
  by_cases hv : v = .slice none 0 0
  · rcases h.2 with ⟨h1, h2⟩ | ⟨g, cap, cur, hv', _⟩
    · exact .inl ⟨hv, List.eq_nil_of_length_eq_zero h2⟩
    · rw [hv'] at hv; simp at hv
  · obtain ⟨g, cap, hv', ho⟩ := OwnRow.of_owns flC flC_length hv h rfl
    obtain ⟨cur, hb, h1, h2⟩ := ho.blk
    exact .inr ⟨g, cap, hv', Nat.zero_le _, ho.le, ho.max, cur, hb, h1, h2⟩

set_option maxHeartbeats 400000 in
theorem reset_any (b : Nat) (v : Value) (size : Nat) (max : Int) (L : List (Int × Int)) (w : World) (h : InfP w b v size max L) :
    Calls Try.prog 69 #[(Value.pointer (some ⟨b, 0, none⟩))] w fun r w' => r = .returned (.tuple #[]) ∧ InfP w' b v size max [] ∧ Chg (fun k => k = b) w w' := by
  obtain ⟨hs, hm, hrng, hlen, start, R, hb, hr, hRs, hst, hq, hold⟩ := h
  have d0 := hb.cell 0
  have d1 := hb.cell 1
  have d2 := hb.cell 2
  have f0 := hb.free 0
  have f1 := hb.free 1
  have f2 := hb.free 2
  simp at d0 d1 d2
  have B := Lib.hid hb
  have HR := Lib.hid hr
  clear hb hr hold hrng
  go_enter Try.func69, Try.ntmps69
  go_wp2
  have hc : Chg (fun k => k = b) w (((w.setCell ⟨b, 0, none⟩ (.int .i64 0)).setCell ⟨b, 1, none⟩ (.int .i64 0)).setCell ⟨b, 2, none⟩ (.int .u64 0)) :=
    (((Chg.refl (fun k => k = b) w).set (p := ⟨b, 0, none⟩) (.inl rfl) _).set (p := ⟨b, 1, none⟩) (.inl rfl) _).set (p := ⟨b, 2, none⟩) (.inl rfl) _
  refine bodyPost_end (results_none rfl _ _ _) rfl ⟨rfl, ?_, hc⟩
  refine ⟨hs, hm, fun x hx => by simp at hx, Nat.zero_le _, 0, R, ((B.out.set 0 _).set 1 _).set 2 _, HR.out.chg hc (fun k hk hkb => ?_), hRs, .inr rfl, .inl (by simp), fun j x hx => by simp at hx⟩
  rcases HR.out with ⟨rfl, rfl⟩ | ⟨g, cap, rfl, ho⟩
  · cases hk
  · have h : some g = some k := hk
    simp at h
    obtain ⟨cur, hcb, -⟩ := ho.blk
    exact hcb.ne B.out (by decide) (by omega)

set_option maxHeartbeats 400000 in
theorem zzReset_any (b : Nat) (v : Value) (size : Nat) (max : Int) (L : List (Int × Int)) (w : World) (h : InfP w b v size max L) :
    Calls Try.prog 52 #[(Value.pointer (some ⟨b, 0, none⟩))] w fun r w' => r = .returned (.tuple #[]) ∧ InfP w' b v size max [] ∧ Chg (fun k => k = b) w w' := by
  go_enter Try.func52, Try.ntmps52
  go_wp2_with (go_at_call 69; (with_reducible refine (reset_any b v size max L _ h).mono ?_); rintro e w1 ⟨rfl, hi1, hc1⟩)
  exact bodyPost_end (results_none rfl _ _ _) rfl ⟨rfl, hi1, hc1⟩

set_option maxRecDepth 100000 in
set_option maxHeartbeats 1000000 in
theorem clone_any (b : Nat) (v : Value) (size : Nat) (max : Int) (L : List (Int × Int)) (w : World) (h : InfP w b v size max L) :
    Calls Try.prog 33 #[(Value.pointer (some ⟨b, 0, none⟩))] w fun r w' => ∃ b2 v2, r = .returned (Value.pointer (some ⟨b2, 0, none⟩)) ∧ w.heap.size ≤ b2 ∧ (∀ k, v2.ownBlock = some k → w.heap.size ≤ k) ∧ InfP w' b2 v2 size max L ∧ Ext w w' := by
  obtain ⟨i0, hi, hz0, hz1, hz2⟩ := info_parts infoFl
  have X := Lib.hid h
  obtain ⟨hs, hm, hrng, hlen, start, R, hb, hr, hRs, hst, hq, hold⟩ := h
  obtain ⟨n, hn⟩ : ∃ n, n = L.length := ⟨_, rfl⟩
  obtain ⟨sb, hsb⟩ : ∃ s, s = sumB L := ⟨_, rfl⟩
  have HN := Lib.hid hn
  have HS := Lib.hid hsb
  have HRNG := Lib.hid hrng
  rw [← hn, ← hsb] at hb
  have hbl := hb.lt
  have B := Lib.hid hb
  have HR := Lib.hid hr
  have HO := Lib.hid hold
  clear hb hold hrng hn hsb
  rcases hr with ⟨rfl, rfl⟩ | ⟨g, cap, rfl, ho⟩
  · have d0 : w.cell? ⟨b, 0, none⟩ = some (.int .i64 start) := B.out.cell 0
    have d1 : w.cell? ⟨b, 1, none⟩ = some (.int .i64 n) := B.out.cell 1
    have d2 : w.cell? ⟨b, 2, none⟩ = some (.int .u64 sb) := B.out.cell 2
    have d3 : w.cell? ⟨b, 3, none⟩ = some (.int .i64 size) := B.out.cell 3
    have d4 : w.cell? ⟨b, 4, none⟩ = some (.int .u64 max) := B.out.cell 4
    have d5 : w.cell? ⟨b, 5, none⟩ = some (.slice none 0 0) := B.out.cell 5
    go_enter Try.func33, Try.ntmps33
    go_wp2_with (at_builtin; refine wpList_append_own_none rfl _ _ 97 rfl w.heap.size 103 i0 2 Try.underlying97 hi _ 0 [] rfl (World.ownsRow_nil _ _ _ _) rfl ?_)
    refine bodyPost_ret (results_tmp rfl _ _ _) rfl ⟨_, .slice none 0 0, rfl, Nat.le_refl _, (fun k hk => by cases hk), ?_, by (repeat (first | with_reducible exact Ext.refl _ | with_reducible assumption | with_reducible apply Ext.alloc | with_reducible apply Ext.drew | with_reducible apply Ext.drewN | (with_reducible refine Ext.trans ?_ (by assumption)) | ((with_reducible refine Ext.set ?_ ?_ _); rotate_left; (focus (first | (simp; done) | omega | (simp; omega))))))⟩
    exact ⟨hs, hm, HRNG.out, hlen, start, [], by rw [← HN.out, ← HS.out]; exact Blk.new _ _ _, .inl ⟨rfl, rfl⟩, hRs, hst, hq, HO.out⟩
  · have d0 : w.cell? ⟨b, 0, none⟩ = some (.int .i64 start) := B.out.cell 0
    have d1 : w.cell? ⟨b, 1, none⟩ = some (.int .i64 n) := B.out.cell 1
    have d2 : w.cell? ⟨b, 2, none⟩ = some (.int .u64 sb) := B.out.cell 2
    have d3 : w.cell? ⟨b, 3, none⟩ = some (.int .i64 size) := B.out.cell 3
    have d4 : w.cell? ⟨b, 4, none⟩ = some (.int .u64 max) := B.out.cell 4
    have d5 : w.cell? ⟨b, 5, none⟩ = some (.slice (some ⟨g, 0, none⟩) R.length cap) := B.out.cell 5
    have O := Lib.hid (fun W (hW : Ext w W) => (ho.flat.ext hW).newsAll flC_length (by decide))
    have hRl : R.length ≤ 1000 := by omega
    have FL := Lib.hid (flatMap_length flC flC_length R)
    clear ho
    go_enter Try.func33, Try.ntmps33
    go_wp2_with (at_builtin; refine wpList_append_own _ rfl _ _ 97 rfl w.heap.size 103 i0 _ 2 16 Try.underlying97 hi hz0 hz1 hz2 rfl (by decide) _ 0 [] rfl (World.ownsRow_nil _ _ _ _) ⟨g, 0, none⟩ R.length cap _ rfl FL.out (O.out _ (by (repeat (first | with_reducible exact Ext.refl _ | with_reducible assumption | with_reducible apply Ext.alloc | with_reducible apply Ext.drew | with_reducible apply Ext.drewN | (with_reducible refine Ext.trans ?_ (by assumption)) | ((with_reducible refine Ext.set ?_ ?_ _); rotate_left; (focus (first | (simp; done) | omega | (simp; omega)))))))) (fun u hu => fl_one hu) (by unfold maxLen; omega) (by omega) (by simp) ?_; intro v1 w1 ho1 hg1 _; have E1 : Ext w w1 := Ext.grown ((Ext.refl w).alloc _) hg1 (fun k hk => ((World.ownsRow_nil w w.heap.size 103 2).lt k hk).1); have hb1 : Blk w1 w.heap.size _ _ := Blk.grown (Blk.new w #[.int .i64 start, .int .i64 n, .int .u64 sb, .int .i64 size, .int .u64 max, .slice (some ⟨g, 0, none⟩) R.length cap] 99) hg1 (fun hk => by cases hk); have q5 := hb1.cell 5; have q6 := hb1.free 5; simp at q5; have HB1 := Lib.hid hb1; rw [List.nil_append, Nat.zero_add] at ho1; obtain ⟨ad1, cc1, rfl⟩ := ownsRow_shape ho1; have HO1 := Lib.hid ho1; have hw1 : w.heap.size < w1.heap.size := (by have := HB1.out.lt; omega); clear hb1 ho1)
    obtain ⟨hrr, hrf⟩ := RingRow.of_owns HO1.out
    refine bodyPost_ret (results_tmp rfl _ _ _) rfl ⟨_, .slice ad1 R.length cc1, rfl, Nat.le_refl _, hrf, ?_, by (repeat (first | with_reducible exact Ext.refl _ | with_reducible assumption | with_reducible apply Ext.alloc | with_reducible apply Ext.drew | with_reducible apply Ext.drewN | (with_reducible refine Ext.trans ?_ (by assumption)) | ((with_reducible refine Ext.set ?_ ?_ _); rotate_left; (focus (first | (simp; done) | omega | (simp; omega))))))⟩
    refine ⟨hs, hm, HRNG.out, hlen, start, R, by rw [← HN.out, ← HS.out]; exact HB1.out.set 5 _, ?_, hRs, hst, hq, HO.out⟩
    refine hrr.chg ((Chg.refl (fun k => k = w.heap.size) w1).set (p := ⟨w.heap.size, 5, none⟩) (.inl rfl) _) (fun k hk hkb => ?_)
    rcases hrr with ⟨h1, h2⟩ | ⟨g1, cap1, h1, ho⟩
    · rw [h1] at hk; cases hk
    · rw [h1] at hk
      have h : some g1 = some k := hk
      simp at h
      obtain ⟨cur, hcb, -⟩ := ho.blk
      exact hcb.ne HB1.out (by decide) (by omega)
end Go.Proofs.Ythfdhamencefiaa
