/-
  FnExtend's own walks.
-/
import Derived.Test.YthfdhamencefiaaRows
import Derived.Test.YthfdhamencefiaaBase
import Derived.Test.YthfdhamencefiaaSees
import Derived.Test.YthfdhamencefiaaEnt
import Derived.Test.YthfdhamencefiaaEntP
import Derived.Test.YthfdhamencefiaaExt
import Derived.Test.YthfdhamencefiaaFrom
import Derived.Test.YthfdhamencefiaaSame
import Derived.Test.YthfdhamencefiaaOpen
set_option linter.unusedVariables false
set_option linter.unusedSimpArgs false
namespace Go.Proofs.Ythfdhamencefiaa
open Go.RowKit

theorem owns_base {w : World} {b b' : Nat} {e : TypeId} {k n : Nat} {v : Value} {xs : List Value} (h : w.ownsRow b e k v n xs) (hb : b' ≤ b) : w.ownsRow b' e k v n xs := by
  refine ⟨h.1, h.2.imp id fun ⟨g, cap, cur, h1, h2, h3⟩ => ⟨g, cap, cur, h1, Nat.le_trans hb h2, h3⟩⟩

set_option maxRecDepth 100000 in
set_option maxHeartbeats 1000000 in
theorem implExtend (a1 : Option Addr) (n1 c1 : Nat) (l1 : List Ent) (a2 : Option Addr) (n2 c2 : Nat) (l2 : List Ent) (w : World) (h1 : FlatRow w 4 Ent.cells a1 n1 c1 l1) (h2 : FlatRow w 4 Ent.cells a2 n2 c2 l2)
    (hk1 : ∀ e, e ∈ l1 → 0 ≤ e.kind ∧ e.kind ≤ 2) (hk2 : ∀ e, e ∈ l2 → 0 ≤ e.kind ∧ e.kind ≤ 2) (hn : n1 + n2 ≤ 2147483647) :
    Calls Try.prog 11 #[.slice a1 n1 c1, .slice a2 n2 c2] w fun r w' => ∃ v, r = .returned v ∧ w'.ownsRow w.heap.size 66 4 v (n1 + n2) ((l1 ++ l2).flatMap Ent.cells) ∧ Ext w w' := by
  have X := Lib.hid h1
  have Y := Lib.hid h2
  have K3 : Hid (∀ e, e ∈ l1 ++ l2 → -2147483648 ≤ e.kind ∧ e.kind ≤ 2147483647) := fun e he => by
    rcases List.mem_append.1 he with h | h
    · have := hk1 e h; omega
    · have := hk2 e h; omega
  have K1 := Lib.hid hk1
  have K2 := Lib.hid hk2
  clear h1 h2 hk1 hk2
  have e1 : n1 ≤ 2147483647 := by omega
  have e2 : n2 ≤ 2147483647 := by omega
  go_enter Try.func11, Try.ntmps11
  go_wp2_with (first | (go_at_call_of 26 (Value.slice a1 n1 c1); refine (entriesTo_any a1 n1 c1 l1 _ (X.out.ext (by (repeat (first | with_reducible exact Ext.refl _ | with_reducible assumption | with_reducible apply Ext.alloc | with_reducible apply Ext.drew | with_reducible apply Ext.drewN | (with_reducible refine Ext.trans ?_ (by assumption)) | ((with_reducible refine Ext.set ?_ ?_ _); rotate_left; (focus (first | (simp; done) | omega | (simp; omega)))))))) K1.out e1).mono ?_; rintro e w1 ⟨v1, xs1, rfl, ho1, ha1, he1⟩; obtain ⟨ad1, cc1, rfl⟩ := ownsRow_shape ho1; have H1 := Lib.hid (And.intro ho1 ha1); clear ho1 ha1) | (go_at_call_of 26 (Value.slice a2 n2 c2); refine (entriesTo_any a2 n2 c2 l2 _ (Y.out.ext (by (repeat (first | with_reducible exact Ext.refl _ | with_reducible assumption | with_reducible apply Ext.alloc | with_reducible apply Ext.drew | with_reducible apply Ext.drewN | (with_reducible refine Ext.trans ?_ (by assumption)) | ((with_reducible refine Ext.set ?_ ?_ _); rotate_left; (focus (first | (simp; done) | omega | (simp; omega)))))))) K2.out e2).mono ?_; rintro e w2 ⟨v2, xs2, rfl, ho2, ha2, he2⟩; obtain ⟨ad2, cc2, rfl⟩ := ownsRow_shape ho2; have H2 := Lib.hid (And.intro ho2 ha2); have ho3 := H1.out.1.kept (row := none) (World.grownBy_of_ext he2) (by cases hv : (Value.slice ad1 n1 cc1).ownBlock <;> simp); have H3 := Lib.hid (And.intro ho3 (H1.out.2.imp fun x y h => h.ext he2)); clear ho2 ha2 ho3) | (go_at_call 25; refine (zzExtend_any w.heap.size _ n1 xs1 ad2 n2 cc2 xs2 _ H3.out.1 (FlatT.of_owns H2.out.1) (fun u hu => entP_one H3.out.2 hu) (fun u hu => entP_one H2.out.2 hu) (by have := he1.size; have := he2.size; omega) hn).mono ?_; rintro e w3 ⟨ad3, cc3, rfl, ho3, hg3⟩; have k3 : Keep entS w2 w3 := Keep.grown H3.out.1 hg3 (by simp [entS]); have x3 : Ext w w3 := Ext.grown (he1.trans he2) hg3 (fun j hj => (H3.out.1.lt j hj).1); have H4 := Lib.hid (And.intro ho3 ((H3.out.2.append H2.out.2).imp fun x y h => h.keep k3)); clear ho3) | (go_at_call 24; refine (entriesFrom_any ad3 (n1 + n2) cc3 (l1 ++ l2) _ ⟨_, FlatT.of_owns H4.out.1, H4.out.2⟩ K3.out hn).mono ?_; rintro e w4 ⟨v4, rfl, ho4, he4⟩; obtain ⟨ad4, cc4, rfl⟩ := ownsRow_shape ho4; have H5 := Lib.hid ho4; clear ho4))
  refine bodyPost_ret (results_tmp rfl _ _ _) rfl ?_
  exact ⟨_, rfl, owns_base H5.out (by have := x3.size; omega), x3.trans he4⟩

theorem shortE_kind {l : List Ent} {e : Ent} (h : e ∈ (l.take 60).map shortE) : 0 ≤ e.kind ∧ e.kind ≤ 2 := by
  rw [List.mem_map] at h
  obtain ⟨y, _, rfl⟩ := h
  simp only [shortE]
  omega

set_option maxRecDepth 100000 in
set_option maxHeartbeats 2000000 in
theorem fnExtendV (v0 : Value) (l0 : List Ent) (v1 : Value) (l1 : List Ent) {w : World} (h0 : EntsV w v0 l0) (h1 : EntsV w v1 l1) :
    Calls Try.prog 3 #[v0, v1] w fun e w' => e = .returned (.bool true) ∧ Ext w w' := by
  obtain ⟨i0, hi, hz0, hz1, hz2⟩ := info_parts infoEnt
  obtain ⟨a0, n0, c0, rfl, hr0, hok0⟩ := h0
  obtain ⟨a1, n1, c1, rfl, hr1, hok1⟩ := h1
  have hl0 := hr0.length
  have hl1 := hr1.length
  have X := Lib.hid hr0
  have Y := Lib.hid hr1
  clear hr0 hr1
  by_cases hb0 : fits4B l0 = true
  · by_cases hb1 : fits4B l1 = true
    · have hn0 : n0 ≤ 2147483647 := by
        unfold fits4B at hb0
        simp at hb0
        omega
      have hn1 : n1 ≤ 2147483647 := by
        unfold fits4B at hb1
        simp at hb1
        omega
      obtain ⟨m0, hm0, hmv0⟩ : ∃ m, m = min n0 60 ∧ m ≤ 60 := ⟨_, rfl, by omega⟩
      obtain ⟨m1, hm1, hmv1⟩ : ∃ m, m = min n1 60 ∧ m ≤ 60 := ⟨_, rfl, by omega⟩
      obtain ⟨L0, hL0⟩ : ∃ L, L = (l0.take 60).map shortE := ⟨_, rfl⟩
      obtain ⟨L1, hL1⟩ : ∃ L, L = (l1.take 60).map shortE := ⟨_, rfl⟩
      have hLm0 : L0.length = m0 := by rw [hL0, List.length_map, List.length_take, hl0, hm0]; omega
      have hLm1 : L1.length = m1 := by rw [hL1, List.length_map, List.length_take, hl1, hm1]; omega
      have k0 : ∀ e, e ∈ L0 → 0 ≤ e.kind ∧ e.kind ≤ 2 := by rw [hL0]; exact fun e he => shortE_kind he
      have k1 : ∀ e, e ∈ L1 → 0 ≤ e.kind ∧ e.kind ≤ 2 := by rw [hL1]; exact fun e he => shortE_kind he
      have hS0 : ∀ W, Ext w W → Calls Try.prog 9 #[.slice a0 n0 c0] W fun e w' => ∃ g c, e = .returned (.slice (some ⟨g, 0, none⟩) m0 c) ∧ FlatRow w' 4 Ent.cells (some ⟨g, 0, none⟩) m0 c L0 ∧ Ext W w' := fun W hW =>
        (shortEntries_any a0 n0 c0 l0 W (X.out.ext hW) hok0 hn0).mono fun e w' ⟨g, c, he, hr, hx⟩ => ⟨g, c, by rw [he, hm0], by have := hr.flat; rw [← hL0, hLm0] at this; exact this, hx⟩
      have hS1 : ∀ W, Ext w W → Calls Try.prog 9 #[.slice a1 n1 c1] W fun e w' => ∃ g c, e = .returned (.slice (some ⟨g, 0, none⟩) m1 c) ∧ FlatRow w' 4 Ent.cells (some ⟨g, 0, none⟩) m1 c L1 ∧ Ext W w' := fun W hW =>
        (shortEntries_any a1 n1 c1 l1 W (Y.out.ext hW) hok1 hn1).mono fun e w' ⟨g, c, he, hr, hx⟩ => ⟨g, c, by rw [he, hm1], by have := hr.flat; rw [← hL1, hLm1] at this; exact this, hx⟩
      have S0 := Lib.hid hS0
      have S1 := Lib.hid hS1
      have K0 := Lib.hid k0
      have K1 := Lib.hid k1
      have B0 := Lib.hid hb0
      have B1 := Lib.hid hb1
      have LL := Lib.hid (And.intro (show (L0.flatMap Ent.cells).length = m0 * 4 by rw [flatMap_length Ent.cells Ent.cells_length, hLm0]) (show (L1.flatMap Ent.cells).length = m1 * 4 by rw [flatMap_length Ent.cells Ent.cells_length, hLm1]))
      clear hL0 hL1 hLm0 hLm1 k0 k1 hS0 hS1 hl0 hl1 hm0 hm1 hok0 hok1 hb0 hb1
      go_enter Try.func3, Try.ntmps3
      go_wp2_with (first | (go_at_call_of 8 (Value.slice a0 n0 c0); (with_reducible refine (fits4 a0 n0 c0 l0 _ (X.out.ext (by (repeat (first | with_reducible exact Ext.refl _ | with_reducible assumption | with_reducible apply Ext.alloc | with_reducible apply Ext.drew | with_reducible apply Ext.drewN | (with_reducible refine Ext.trans ?_ (by assumption)) | ((with_reducible refine Ext.set ?_ ?_ _); rotate_left; (focus (first | (simp; done) | omega | (simp; omega))))))))).mono ?_); rintro e w1 ⟨rfl, he1⟩; rw [B0.out]) | (go_at_call_of 8 (Value.slice a1 n1 c1); (with_reducible refine (fits4 a1 n1 c1 l1 _ (Y.out.ext (by (repeat (first | with_reducible exact Ext.refl _ | with_reducible assumption | with_reducible apply Ext.alloc | with_reducible apply Ext.drew | with_reducible apply Ext.drewN | (with_reducible refine Ext.trans ?_ (by assumption)) | ((with_reducible refine Ext.set ?_ ?_ _); rotate_left; (focus (first | (simp; done) | omega | (simp; omega))))))))).mono ?_); rintro e w2 ⟨rfl, he2⟩; rw [B1.out]) | (go_at_call_of 9 (Value.slice a0 n0 c0); (with_reducible refine (S0.out _ (by (repeat (first | with_reducible exact Ext.refl _ | with_reducible assumption | with_reducible apply Ext.alloc | with_reducible apply Ext.drew | with_reducible apply Ext.drewN | (with_reducible refine Ext.trans ?_ (by assumption)) | ((with_reducible refine Ext.set ?_ ?_ _); rotate_left; (focus (first | (simp; done) | omega | (simp; omega)))))))).mono ?_); rintro e w3 ⟨g0, d0, rfl, hr3, he3⟩; have H0 := Lib.hid hr3; clear hr3) | (go_at_call_of 9 (Value.slice a1 n1 c1); (with_reducible refine (S1.out _ (by (repeat (first | with_reducible exact Ext.refl _ | with_reducible assumption | with_reducible apply Ext.alloc | with_reducible apply Ext.drew | with_reducible apply Ext.drewN | (with_reducible refine Ext.trans ?_ (by assumption)) | ((with_reducible refine Ext.set ?_ ?_ _); rotate_left; (focus (first | (simp; done) | omega | (simp; omega)))))))).mono ?_); rintro e w4 ⟨g1, d1, rfl, hr4, he4⟩; have H1 := Lib.hid hr4; clear hr4) | (go_at_call 11; (with_reducible refine (implExtend _ _ _ L0 _ _ _ L1 _ (H0.out.ext (by (repeat (first | with_reducible exact Ext.refl _ | with_reducible assumption | with_reducible apply Ext.alloc | with_reducible apply Ext.drew | with_reducible apply Ext.drewN | (with_reducible refine Ext.trans ?_ (by assumption)) | ((with_reducible refine Ext.set ?_ ?_ _); rotate_left; (focus (first | (simp; done) | omega | (simp; omega)))))))) (H1.out.ext (by (repeat (first | with_reducible exact Ext.refl _ | with_reducible assumption | with_reducible apply Ext.alloc | with_reducible apply Ext.drew | with_reducible apply Ext.drewN | (with_reducible refine Ext.trans ?_ (by assumption)) | ((with_reducible refine Ext.set ?_ ?_ _); rotate_left; (focus (first | (simp; done) | omega | (simp; omega)))))))) K0.out K1.out (by omega)).mono ?_); rintro e w5 ⟨v5, rfl, ho5, he5⟩; obtain ⟨a5, c5, rfl, hf5⟩ := FlatRow.of_owns Ent.cells Ent.cells_length (by decide) ho5; have H5 := Lib.hid hf5; clear ho5 hf5) | (at_builtin; refine wpList_append_own _ rfl _ _ 22 rfl w5.heap.size 66 i0 _ 4 40 Try.underlying22 hi hz0 hz1 hz2 rfl (by decide) _ _ _ rfl ho6 ⟨g1, 0, none⟩ m1 _ (L1.flatMap Ent.cells) rfl LL.out.2 ((H1.out.ext (by (repeat (first | with_reducible exact Ext.refl _ | with_reducible assumption | with_reducible apply Ext.alloc | with_reducible apply Ext.drew | with_reducible apply Ext.drewN | (with_reducible refine Ext.trans ?_ (by assumption)) | ((with_reducible refine Ext.set ?_ ?_ _); rotate_left; (focus (first | (simp; done) | omega | (simp; omega)))))))).newsAll Ent.cells_length (by decide)) (fun u hu => ent_one hu) (by unfold maxLen; omega) (by omega) (by have := E6.size; omega) ?_; intro v7 w7 ho7 hg7 _; have E7 : Ext w5 w7 := Ext.grown E6 hg7 (fun j hj => (ho6.lt j hj).1); rw [List.nil_append, ← List.flatMap_append, Nat.zero_add] at ho7; obtain ⟨a7, c7, rfl, hf7⟩ := FlatRow.of_owns Ent.cells Ent.cells_length (by decide) ho7; have H7 := Lib.hid hf7; clear ho7 hf7) | (at_builtin; refine wpList_append_own _ rfl _ _ 22 rfl w5.heap.size 66 i0 _ 4 40 Try.underlying22 hi hz0 hz1 hz2 rfl (by decide) _ 0 [] rfl (World.ownsRow_made w5 #[] 0 (Nat.le_refl _) (Nat.zero_le _) rfl) ⟨g0, 0, none⟩ m0 _ (L0.flatMap Ent.cells) rfl LL.out.1 ((H0.out.ext (by (repeat (first | with_reducible exact Ext.refl _ | with_reducible assumption | with_reducible apply Ext.alloc | with_reducible apply Ext.drew | with_reducible apply Ext.drewN | (with_reducible refine Ext.trans ?_ (by assumption)) | ((with_reducible refine Ext.set ?_ ?_ _); rotate_left; (focus (first | (simp; done) | omega | (simp; omega)))))))).newsAll Ent.cells_length (by decide)) (fun u hu => ent_one hu) (by unfold maxLen; omega) (by omega) (by simp) ?_; intro v6 w6 ho6 hg6 _; have E6 : Ext w5 w6 := Ext.grown ((Ext.refl w5).alloc _) hg6 (fun k hk => ((World.ownsRow_made (e := 66) (size := 4) w5 #[] 0 (Nat.le_refl _) (Nat.zero_le _) rfl).lt k hk).1)) | (go_at_call 10; (with_reducible refine (sameEnts _ _ _ (L0 ++ L1) _ _ _ (L0 ++ L1) _ (H5.out.ext (by (repeat (first | with_reducible exact Ext.refl _ | with_reducible assumption | with_reducible apply Ext.alloc | with_reducible apply Ext.drew | with_reducible apply Ext.drewN | (with_reducible refine Ext.trans ?_ (by assumption)) | ((with_reducible refine Ext.set ?_ ?_ _); rotate_left; (focus (first | (simp; done) | omega | (simp; omega)))))))) (H7.out.ext (by (repeat (first | with_reducible exact Ext.refl _ | with_reducible assumption | with_reducible apply Ext.alloc | with_reducible apply Ext.drew | with_reducible apply Ext.drewN | (with_reducible refine Ext.trans ?_ (by assumption)) | ((with_reducible refine Ext.set ?_ ?_ _); rotate_left; (focus (first | (simp; done) | omega | (simp; omega)))))))) (by omega) (by omega)).mono ?_); rintro e w8 ⟨rfl, he8⟩))
      refine bodyPost_ret (results_tmp rfl _ _ _) rfl ?_
      exact ⟨by simp, by (repeat (first | with_reducible exact Ext.refl _ | with_reducible assumption | with_reducible apply Ext.alloc | with_reducible apply Ext.drew | with_reducible apply Ext.drewN | (with_reducible refine Ext.trans ?_ (by assumption)) | ((with_reducible refine Ext.set ?_ ?_ _); rotate_left; (focus (first | (simp; done) | omega | (simp; omega))))))⟩
    · have B0 := Lib.hid hb0
      have B1 := Lib.hid (Bool.eq_false_iff.2 hb1)
      clear hb0 hb1 hl0 hl1
      go_enter Try.func3, Try.ntmps3
      go_wp2_with (first | (go_at_call_of 8 (Value.slice a0 n0 c0); (with_reducible refine (fits4 a0 n0 c0 l0 _ (X.out.ext (by (repeat (first | with_reducible exact Ext.refl _ | with_reducible assumption | with_reducible apply Ext.alloc | with_reducible apply Ext.drew | with_reducible apply Ext.drewN | (with_reducible refine Ext.trans ?_ (by assumption)) | ((with_reducible refine Ext.set ?_ ?_ _); rotate_left; (focus (first | (simp; done) | omega | (simp; omega))))))))).mono ?_); rintro e w1 ⟨rfl, he1⟩; rw [B0.out]) | (go_at_call_of 8 (Value.slice a1 n1 c1); (with_reducible refine (fits4 a1 n1 c1 l1 _ (Y.out.ext (by (repeat (first | with_reducible exact Ext.refl _ | with_reducible assumption | with_reducible apply Ext.alloc | with_reducible apply Ext.drew | with_reducible apply Ext.drewN | (with_reducible refine Ext.trans ?_ (by assumption)) | ((with_reducible refine Ext.set ?_ ?_ _); rotate_left; (focus (first | (simp; done) | omega | (simp; omega))))))))).mono ?_); rintro e w2 ⟨rfl, he2⟩; rw [B1.out]))
      go_ret
      exact ⟨rfl, by (repeat (first | with_reducible exact Ext.refl _ | with_reducible assumption | with_reducible apply Ext.alloc | with_reducible apply Ext.drew | with_reducible apply Ext.drewN | (with_reducible refine Ext.trans ?_ (by assumption)) | ((with_reducible refine Ext.set ?_ ?_ _); rotate_left; (focus (first | (simp; done) | omega | (simp; omega))))))⟩
  · have B0 := Lib.hid (Bool.eq_false_iff.2 hb0)
    clear hb0 hl0 hl1
    go_enter Try.func3, Try.ntmps3
    go_wp2_with (first | (go_at_call_of 8 (Value.slice a0 n0 c0); (with_reducible refine (fits4 a0 n0 c0 l0 _ (X.out.ext (by (repeat (first | with_reducible exact Ext.refl _ | with_reducible assumption | with_reducible apply Ext.alloc | with_reducible apply Ext.drew | with_reducible apply Ext.drewN | (with_reducible refine Ext.trans ?_ (by assumption)) | ((with_reducible refine Ext.set ?_ ?_ _); rotate_left; (focus (first | (simp; done) | omega | (simp; omega))))))))).mono ?_); rintro e w1 ⟨rfl, he1⟩; rw [B0.out]))
    go_ret
    exact ⟨rfl, by (repeat (first | with_reducible exact Ext.refl _ | with_reducible assumption | with_reducible apply Ext.alloc | with_reducible apply Ext.drew | with_reducible apply Ext.drewN | (with_reducible refine Ext.trans ?_ (by assumption)) | ((with_reducible refine Ext.set ?_ ?_ _); rotate_left; (focus (first | (simp; done) | omega | (simp; omega))))))⟩

theorem fnExtendW (v0 : Value) (l0 : List Ent) {w : World} (h0 : EntsV w v0 l0) (v1 : Value) (l1 : List Ent) (h1 : EntsV w v1 l1) :
    Calls Try.prog 3 #[v0, v1] w fun e w' => e = .returned (.bool true) ∧ Ext w w' := fnExtendV v0 l0 v1 l1 h0 h1
end Go.Proofs.Ythfdhamencefiaa
