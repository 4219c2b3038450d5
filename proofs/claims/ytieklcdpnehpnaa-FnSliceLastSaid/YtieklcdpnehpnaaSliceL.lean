/-
  FnSliceLast's own walk.
-/
import Derived.Test.YtieklcdpnehpnaaRows
import Derived.Test.YtieklcdpnehpnaaBase
import Derived.Test.YtieklcdpnehpnaaSees
import Derived.Test.YtieklcdpnehpnaaEnt
import Derived.Test.YtieklcdpnehpnaaRow
import Derived.Test.YtieklcdpnehpnaaSlice
import Derived.Test.YtieklcdpnehpnaaOpen
import Derived.Deep.RegionHeld3
import Derived.Deep.QuietTactic
import Derived.BigQuiet
set_option linter.unusedVariables false
set_option linter.unusedSimpArgs false
namespace Go.Proofs.Ytieklcdpnehpnaa
open Go.RowKit

theorem rowL_length (f : Int) (l : List Ent) : (rowL f l).length = min l.length 60 := by
  unfold rowL
  rw [List.length_mapIdx, List.length_map, List.length_take]
  omega
theorem rowL_kind {f : Int} {l : List Ent} {e : Ent} (h : e ∈ rowL f l) : 0 ≤ e.kind ∧ e.kind ≤ 2 := by
  unfold rowL at h
  obtain ⟨i, hi, rfl⟩ := List.getElem_of_mem h
  simp only [List.getElem_mapIdx, List.getElem_map, rowE, shortE]
  omega
theorem rowL_last (f pt pi : Int) (l : List Ent) (hf : f = pi + 1) : (lastID pt pi (rowL f l)).2 = pi + (min l.length 60 : Nat) := by
  unfold lastID
  rw [List.getLast?_eq_getElem?, rowL_length]
  by_cases h : min l.length 60 = 0
  · rw [h, List.getElem?_eq_none (by rw [rowL_length]; omega)]
    simp
  · have hi : min l.length 60 - 1 < (rowL f l).length := by rw [rowL_length]; omega
    rw [List.getElem?_eq_getElem hi]
    simp only [rowL, List.getElem_mapIdx, rowE]
    omega

set_option maxRecDepth 100000 in
set_option maxHeartbeats 1000000 in
theorem fnSliceLastV (pt pi : Int) (a : Option Addr) (len cap : Nat) (l : List Ent) (w : World) (hrow : FlatRow w 4 Ent.cells a len cap l) (hok : ∀ x, x ∈ l → x.ok) (hp : 0 ≤ pi ∧ pi < 18446744073709551616) :
    Calls Try.prog 5 #[.agg #[.int .u64 pt, .int .u64 pi], .slice a len cap] w fun e w' => e = .returned (.bool true) ∧ Ext w w' := by
  have hl := hrow.length
  by_cases hb : fits4B l = true
  · by_cases hi : pi < 4611686018427387904
    · have hlen : len ≤ 2147483647 := by
        unfold fits4B at hb
        simp at hb
        omega
      have X := Lib.hid hrow
      have HB := Lib.hid hb
      have HOK := Lib.hid hok
      have HL := Lib.hid hl
      obtain ⟨m, hm, hmv⟩ : ∃ m, m = min len 60 ∧ m ≤ 60 := ⟨_, rfl, by omega⟩
      have HM := Lib.hid hm
      obtain ⟨q, hq⟩ : ∃ q, q = lastID pt pi (rowL (pi + 1) l) := ⟨_, rfl⟩
      have hq2 : q.2 = pi + m := by rw [hq, rowL_last _ _ _ _ rfl, hl, hm]
      have HQ := Lib.hid hq
      clear hrow hl hb hok hm hq
      have hrl := Lib.hid (show (rowL (pi + 1) l).length = m by rw [rowL_length, HL.out, ← HM.out])
      by_cases hm0 : m = 0
      · subst hm0
        have hq0 : q = (pt, pi) := by
          rw [HQ.out]
          unfold lastID
          rw [List.eq_nil_of_length_eq_zero hrl.out]
          rfl
        subst hq0
        clear hq2
        go_enter Try.func5, Try.ntmps5
        go_wp2_with (first | (go_at_call 12; (with_reducible refine (fits4 a len cap l _ (X.out.ext (by (repeat (first | with_reducible exact Ext.refl _ | with_reducible assumption | with_reducible apply Ext.alloc | with_reducible apply Ext.drew | with_reducible apply Ext.drewN | (with_reducible refine Ext.trans ?_ (by assumption)) | ((with_reducible refine Ext.set ?_ ?_ _); rotate_left; (focus (first | (simp; done) | omega | (simp; omega))))))))).mono ?_); rintro e w1 ⟨rfl, he1⟩; rw [HB.out]; obtain ⟨rc1, rf1⟩ := he1.reads; have rz1 : w.heap.size < w1.heap.size := (by have := he1.size; (try simp at this); omega); have rn1 : ¬ w.heap.size = w1.heap.size := (by omega); have rm1 : ¬ w1.heap.size = w.heap.size := (by omega); (try have ry1 : w.heap.size + 1 < w1.heap.size := (by have := he1.size; (try simp at this); omega)); (try have rx1 : w.heap.size + 1 + 1 < w1.heap.size := (by have := he1.size; (try simp at this); omega))) | (go_at_call 13; refine (rowOf_any (pi + 1) a len cap l _ (X.out.ext (by (repeat (first | with_reducible exact Ext.refl _ | with_reducible assumption | with_reducible apply Ext.alloc | with_reducible apply Ext.drew | with_reducible apply Ext.drewN | (with_reducible refine Ext.trans ?_ (by assumption)) | ((with_reducible refine Ext.set ?_ ?_ _); rotate_left; (focus (first | (simp; done) | omega | (simp; omega)))))))) HOK.out hlen (by omega) (by omega)).mono ?_; rintro e w2 ⟨g, c2, rfl, hr2, he2⟩; have hr2f := hr2.flat; rw [hrl.out] at hr2f; have H2 := Lib.hid hr2f; clear hr2f; clear hr2; rw [← HM.out]; obtain ⟨rc2, rf2⟩ := he2.reads; have rz2 : w.heap.size < w2.heap.size := (by have := he2.size; (try simp at this); omega); have rn2 : ¬ w.heap.size = w2.heap.size := (by omega); have rm2 : ¬ w2.heap.size = w.heap.size := (by omega); (try have ry2 : w.heap.size + 1 < w2.heap.size := (by have := he2.size; (try simp at this); omega)); (try have rx2 : w.heap.size + 1 + 1 < w2.heap.size := (by have := he2.size; (try simp at this); omega))) | (go_at_call 14; refine (sliceLast pt pi _ _ c2 (rowL (pi + 1) l) _ (H2.out.ext (by (repeat (first | with_reducible exact Ext.refl _ | with_reducible assumption | with_reducible apply Ext.alloc | with_reducible apply Ext.drew | with_reducible apply Ext.drewN | (with_reducible refine Ext.trans ?_ (by assumption)) | ((with_reducible refine Ext.set ?_ ?_ _); rotate_left; (focus (first | (simp; done) | omega | (simp; omega)))))))) (fun e he => rowL_kind he) (by omega) (by omega)).mono ?_; rw [← HQ.out]; rintro e w3 ⟨rfl, he3⟩; obtain ⟨rc3, rf3⟩ := he3.reads; have rz3 : w.heap.size < w3.heap.size := (by have := he3.size; (try simp at this); omega); have rn3 : ¬ w.heap.size = w3.heap.size := (by omega); have rm3 : ¬ w3.heap.size = w.heap.size := (by omega); (try have ry3 : w.heap.size + 1 < w3.heap.size := (by have := he3.size; (try simp at this); omega)); (try have rx3 : w.heap.size + 1 + 1 < w3.heap.size := (by have := he3.size; (try simp at this); omega)); (try have sz3_2 : w2.heap.size < w3.heap.size := (by first | (have := he3.size; (try simp at this); omega) | (have := he3.size; (try simp at this); omega))); (try have sn3_2 : ¬ w2.heap.size = w3.heap.size := (by omega)); (try have sm3_2 : ¬ w3.heap.size = w2.heap.size := (by omega)); (try have sy3_2 : w2.heap.size + 1 < w3.heap.size := (by have := he3.size; (try simp at this); omega))))
        refine bodyPost_ret (results_tmp rfl _ _ _) rfl ?_
        exact ⟨rfl, by (repeat (first | with_reducible exact Ext.refl _ | with_reducible assumption | with_reducible apply Ext.alloc | with_reducible apply Ext.drew | with_reducible apply Ext.drewN | (with_reducible refine Ext.trans ?_ (by assumption)) | ((with_reducible refine Ext.set ?_ ?_ _); rotate_left; (focus (first | (simp; done) | omega | (simp; omega))))))⟩
      · obtain ⟨x, hx⟩ := get_of_lt (rowL (pi + 1) l) (k := m - 1) (by rw [rowL_length, HL.out, ← HM.out]; omega)
        have HX := Lib.hid hx
        have hqx : q = (x.term, x.index) := by
          rw [HQ.out]
          unfold lastID
          rw [List.getLast?_eq_getElem?, rowL_length, HL.out, ← HM.out, hx]
        subst hqx
        clear hx
        simp only at hq2
        have h1 : 0 < m := by omega
        go_enter Try.func5, Try.ntmps5
        go_wp2_with (first | (go_at_call 12; (with_reducible refine (fits4 a len cap l _ (X.out.ext (by (repeat (first | with_reducible exact Ext.refl _ | with_reducible assumption | with_reducible apply Ext.alloc | with_reducible apply Ext.drew | with_reducible apply Ext.drewN | (with_reducible refine Ext.trans ?_ (by assumption)) | ((with_reducible refine Ext.set ?_ ?_ _); rotate_left; (focus (first | (simp; done) | omega | (simp; omega))))))))).mono ?_); rintro e w1 ⟨rfl, he1⟩; rw [HB.out]; obtain ⟨rc1, rf1⟩ := he1.reads; have rz1 : w.heap.size < w1.heap.size := (by have := he1.size; (try simp at this); omega); have rn1 : ¬ w.heap.size = w1.heap.size := (by omega); have rm1 : ¬ w1.heap.size = w.heap.size := (by omega); (try have ry1 : w.heap.size + 1 < w1.heap.size := (by have := he1.size; (try simp at this); omega)); (try have rx1 : w.heap.size + 1 + 1 < w1.heap.size := (by have := he1.size; (try simp at this); omega))) | (go_at_call 13; refine (rowOf_any (pi + 1) a len cap l _ (X.out.ext (by (repeat (first | with_reducible exact Ext.refl _ | with_reducible assumption | with_reducible apply Ext.alloc | with_reducible apply Ext.drew | with_reducible apply Ext.drewN | (with_reducible refine Ext.trans ?_ (by assumption)) | ((with_reducible refine Ext.set ?_ ?_ _); rotate_left; (focus (first | (simp; done) | omega | (simp; omega)))))))) HOK.out hlen (by omega) (by omega)).mono ?_; rintro e w2 ⟨g, c2, rfl, hr2, he2⟩; have hr2f := hr2.flat; rw [hrl.out] at hr2f; have H2 := Lib.hid hr2f; clear hr2f; have d0 : w2.cell? ⟨g, (m - 1) * 4, none⟩ = some (.int .u64 x.term) := hr2.cell HX.out (j := 0) rfl; have d1 : w2.cell? ⟨g, (m - 1) * 4 + 1, none⟩ = some (.int .u64 x.index) := hr2.cell HX.out (j := 1) rfl; have hg := hr2.lt; clear hr2; rw [← HM.out]; obtain ⟨rc2, rf2⟩ := he2.reads; have rz2 : w.heap.size < w2.heap.size := (by have := he2.size; (try simp at this); omega); have rn2 : ¬ w.heap.size = w2.heap.size := (by omega); have rm2 : ¬ w2.heap.size = w.heap.size := (by omega); (try have ry2 : w.heap.size + 1 < w2.heap.size := (by have := he2.size; (try simp at this); omega)); (try have rx2 : w.heap.size + 1 + 1 < w2.heap.size := (by have := he2.size; (try simp at this); omega))) | (go_at_call 14; refine (sliceLast pt pi _ _ c2 (rowL (pi + 1) l) _ (H2.out.ext (by (repeat (first | with_reducible exact Ext.refl _ | with_reducible assumption | with_reducible apply Ext.alloc | with_reducible apply Ext.drew | with_reducible apply Ext.drewN | (with_reducible refine Ext.trans ?_ (by assumption)) | ((with_reducible refine Ext.set ?_ ?_ _); rotate_left; (focus (first | (simp; done) | omega | (simp; omega)))))))) (fun e he => rowL_kind he) (by omega) (by omega)).mono ?_; rw [← HQ.out]; rintro e w3 ⟨rfl, he3⟩; obtain ⟨rc3, rf3⟩ := he3.reads; have rz3 : w.heap.size < w3.heap.size := (by have := he3.size; (try simp at this); omega); have rn3 : ¬ w.heap.size = w3.heap.size := (by omega); have rm3 : ¬ w3.heap.size = w.heap.size := (by omega); (try have ry3 : w.heap.size + 1 < w3.heap.size := (by have := he3.size; (try simp at this); omega)); (try have rx3 : w.heap.size + 1 + 1 < w3.heap.size := (by have := he3.size; (try simp at this); omega)); (try have sz3_2 : w2.heap.size < w3.heap.size := (by first | (have := he3.size; (try simp at this); omega) | (have := he3.size; (try simp at this); omega))); (try have sn3_2 : ¬ w2.heap.size = w3.heap.size := (by omega)); (try have sm3_2 : ¬ w3.heap.size = w2.heap.size := (by omega)); (try have sy3_2 : w2.heap.size + 1 < w3.heap.size := (by have := he3.size; (try simp at this); omega))))
        go_region
        go_wp2_with (go_at_call 14; refine (sliceLast pt pi _ _ c2 (rowL (pi + 1) l) _ (H2.out.ext (by (repeat (first | with_reducible exact Ext.refl _ | with_reducible assumption | with_reducible apply Ext.alloc | with_reducible apply Ext.drew | with_reducible apply Ext.drewN | (with_reducible refine Ext.trans ?_ (by assumption)) | ((with_reducible refine Ext.set ?_ ?_ _); rotate_left; (focus (first | (simp; done) | omega | (simp; omega)))))))) (fun e he => rowL_kind he) (by omega) (by omega)).mono ?_; rw [← HQ.out]; rintro e w3 ⟨rfl, he3⟩; obtain ⟨rc3, rf3⟩ := he3.reads; have rz3 : w.heap.size < w3.heap.size := (by have := he3.size; (try simp at this); omega); have rn3 : ¬ w.heap.size = w3.heap.size := (by omega); have rm3 : ¬ w3.heap.size = w.heap.size := (by omega); (try have ry3 : w.heap.size + 1 < w3.heap.size := (by have := he3.size; (try simp at this); omega)); (try have rx3 : w.heap.size + 1 + 1 < w3.heap.size := (by have := he3.size; (try simp at this); omega)); (try have sz3_2 : w2.heap.size < w3.heap.size := (by first | (have := he3.size; (try simp at this); omega) | (have := he3.size; (try simp at this); omega))); (try have sn3_2 : ¬ w2.heap.size = w3.heap.size := (by omega)); (try have sm3_2 : ¬ w3.heap.size = w2.heap.size := (by omega)); (try have sy3_2 : w2.heap.size + 1 < w3.heap.size := (by have := he3.size; (try simp at this); omega)))
        go_ret
        exact ⟨rfl, by (repeat (first | with_reducible exact Ext.refl _ | with_reducible assumption | with_reducible apply Ext.alloc | with_reducible apply Ext.drew | with_reducible apply Ext.drewN | (with_reducible refine Ext.trans ?_ (by assumption)) | ((with_reducible refine Ext.set ?_ ?_ _); rotate_left; (focus (first | (simp; done) | omega | (simp; omega))))))⟩
    · have hi' : 4611686018427387904 ≤ pi := by omega
      have X := Lib.hid hrow
      clear hrow hl
      have HB := Lib.hid hb
      clear hb
      go_enter Try.func5, Try.ntmps5
      go_wp2_with (go_at_call 12; (with_reducible refine (fits4 a len cap l _ (X.out.ext (by (repeat (first | with_reducible exact Ext.refl _ | with_reducible assumption | with_reducible apply Ext.alloc | with_reducible apply Ext.drew | with_reducible apply Ext.drewN | (with_reducible refine Ext.trans ?_ (by assumption)) | ((with_reducible refine Ext.set ?_ ?_ _); rotate_left; (focus (first | (simp; done) | omega | (simp; omega))))))))).mono ?_); rintro e w1 ⟨rfl, he1⟩; rw [HB.out]; obtain ⟨rc1, rf1⟩ := he1.reads; have rz1 : w.heap.size < w1.heap.size := (by have := he1.size; (try simp at this); omega); have rn1 : ¬ w.heap.size = w1.heap.size := (by omega); have rm1 : ¬ w1.heap.size = w.heap.size := (by omega); (try have ry1 : w.heap.size + 1 < w1.heap.size := (by have := he1.size; (try simp at this); omega)); (try have rx1 : w.heap.size + 1 + 1 < w1.heap.size := (by have := he1.size; (try simp at this); omega)))
      go_ret
      exact ⟨rfl, by (repeat (first | with_reducible exact Ext.refl _ | with_reducible assumption | with_reducible apply Ext.alloc | with_reducible apply Ext.drew | with_reducible apply Ext.drewN | (with_reducible refine Ext.trans ?_ (by assumption)) | ((with_reducible refine Ext.set ?_ ?_ _); rotate_left; (focus (first | (simp; done) | omega | (simp; omega))))))⟩
  · have X := Lib.hid hrow
    clear hrow hl
    have HB := Lib.hid (Bool.eq_false_iff.2 hb)
    clear hb
    go_enter Try.func5, Try.ntmps5
    go_wp2_with (go_at_call 12; (with_reducible refine (fits4 a len cap l _ (X.out.ext (by (repeat (first | with_reducible exact Ext.refl _ | with_reducible assumption | with_reducible apply Ext.alloc | with_reducible apply Ext.drew | with_reducible apply Ext.drewN | (with_reducible refine Ext.trans ?_ (by assumption)) | ((with_reducible refine Ext.set ?_ ?_ _); rotate_left; (focus (first | (simp; done) | omega | (simp; omega))))))))).mono ?_); rintro e w1 ⟨rfl, he1⟩; rw [HB.out]; obtain ⟨rc1, rf1⟩ := he1.reads; have rz1 : w.heap.size < w1.heap.size := (by have := he1.size; (try simp at this); omega); have rn1 : ¬ w.heap.size = w1.heap.size := (by omega); have rm1 : ¬ w1.heap.size = w.heap.size := (by omega); (try have ry1 : w.heap.size + 1 < w1.heap.size := (by have := he1.size; (try simp at this); omega)); (try have rx1 : w.heap.size + 1 + 1 < w1.heap.size := (by have := he1.size; (try simp at this); omega)))
    go_ret
    exact ⟨rfl, by (repeat (first | with_reducible exact Ext.refl _ | with_reducible assumption | with_reducible apply Ext.alloc | with_reducible apply Ext.drew | with_reducible apply Ext.drewN | (with_reducible refine Ext.trans ?_ (by assumption)) | ((with_reducible refine Ext.set ?_ ?_ _); rotate_left; (focus (first | (simp; done) | omega | (simp; omega))))))⟩
theorem fnSliceLastW (v0 : Value) (x : Int × Int) (h0 : v0 = .agg #[.int .u64 x.1, .int .u64 x.2] ∧ (0 ≤ x.1 ∧ x.1 < 18446744073709551616) ∧ (0 ≤ x.2 ∧ x.2 < 18446744073709551616)) (v1 : Value) (l : List Ent) {w : World} (h1 : EntsV w v1 l) :
    Calls Try.prog 5 #[v0, v1] w fun e w' => e = .returned (.bool true) ∧ Ext w w' := by
  obtain ⟨rfl, -, hp⟩ := h0
  obtain ⟨a, len, cap, rfl, hr, hok⟩ := h1
  exact fnSliceLastV x.1 x.2 a len cap l w hr hok hp
end Go.Proofs.Ytieklcdpnehpnaa
