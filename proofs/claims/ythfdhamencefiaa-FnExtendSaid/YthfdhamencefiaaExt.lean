/-
  extend: one row of entries behind another one.
-/
import Derived.Test.YthfdhamencefiaaRows
import Derived.Test.YthfdhamencefiaaBase
import Derived.Test.YthfdhamencefiaaSees
import Derived.Test.YthfdhamencefiaaEnt
import Derived.Test.YthfdhamencefiaaEntP
import Derived.Laws.CopyOwn
set_option linter.unusedVariables false
set_option linter.unusedSimpArgs false
namespace Go.Proofs.Ythfdhamencefiaa
open Go.RowKit

/-- the cells of a typed row of one-cell elements -/
theorem FlatT.news1 {w : World} {T : TypeId} {ad : Addr} {m c : Nat} {ys : List Value} (h : FlatT w T 1 one1 (some ad) m c ys) : ∀ (j : Nat) (u : Value), ys[j]? = some u → w.cell? (ad.add j) = some u := by
  intro j u hu
  obtain ⟨b, off, ha, hc⟩ := h.flat.at_ j u hu
  simp at ha
  subst ha
  have hadd : (⟨b, off, none⟩ : Addr).add j = ⟨b, off + j, none⟩ := by unfold Addr.add; split <;> simp_all
  rw [hadd]
  have := hc 0 u rfl
  rwa [Nat.mul_one, Nat.add_zero] at this

theorem FlatT.pos {w : World} {T : TypeId} {a : Option Addr} {m c : Nat} {ys : List Value} (h : FlatT w T 1 one1 a m c ys) (hp : 0 < ys.length) : ∃ ad, a = some ad ∧ ∀ (j : Nat) (u : Value), ys[j]? = some u → w.cell? (ad.add j) = some u := by
  rcases a with _ | ad
  · have := (h.nil rfl).1
    have := h.length
    omega
  · exact ⟨ad, rfl, h.news1⟩
theorem FlatT.of_owns {w : World} {base : Nat} {e : TypeId} {a : Option Addr} {n c : Nat} {xs : List Value} (h : w.ownsRow base e 1 (.slice a n c) n xs) : FlatT w e 1 one1 a n c xs := by
  obtain ⟨a', c', hv, hf⟩ := flat_of_owns h
  simp at hv
  obtain ⟨rfl, rfl⟩ := hv
  exact hf
theorem owns_blk {w : World} {base : Nat} {e : TypeId} {g n c : Nat} {xs : List Value} (h : w.ownsRow base e 1 (.slice (some ⟨g, 0, none⟩) n c) n xs) : base ≤ g ∧ ∃ cur : Array Value, Blk w g cur e ∧ cur.size = c ∧ n ≤ c ∧ c ≤ maxLen ∧ cur.toList.take n = xs := by
  rcases h.2 with ⟨h1, h2⟩ | ⟨g', cap, cur, hv', hg, hb, hle, hmax, hsz, htake⟩
  · simp at h1
  · simp at hv'
    obtain ⟨rfl, rfl⟩ := hv'
    exact ⟨hg, cur, hb, by simpa using hsz, hle, hmax, by simpa using htake⟩
theorem owns_of_blk {w : World} {base : Nat} {e : TypeId} {g n c : Nat} {xs : List Value} {cur : Array Value} (hg : base ≤ g) (hb : Blk w g cur e) (h1 : cur.size = c) (h2 : n ≤ c) (h3 : c ≤ maxLen) (hx : cur.toList.take n = xs) : w.ownsRow base e 1 (.slice (some ⟨g, 0, none⟩) n c) n xs := by
  refine ⟨?_, .inr ⟨g, c, cur, rfl, hg, hb, h2, h3, by simpa using h1, by simpa using hx⟩⟩
  rw [← hx, List.length_take]
  simp
  omega
theorem splice2 {Z xs ys : List Value} (h : Z.length = xs.length + ys.length) : splice (splice Z 0 xs) xs.length ys = xs ++ ys := by
  unfold splice
  simp only [List.take_zero, List.nil_append, Nat.zero_add, List.take_left]
  rw [List.drop_append, List.drop_eq_nil_of_le (by omega), List.drop_drop, List.drop_eq_nil_of_le (by omega)]
  simp

theorem entP_one {w : World} {xs : List Value} {l : List Ent} (h : All2 (EntP w) xs l) {u : Value} (hu : u ∈ xs) : u.oneCell' = true := by
  obtain ⟨i, hi, rfl⟩ := List.getElem_of_mem hu
  have hl : i < l.length := by rw [← h.1]; exact hi
  obtain ⟨b, hb⟩ := (h.2 i _ _ (List.getElem?_eq_getElem hi) (List.getElem?_eq_getElem hl)).shape
  rw [hb]
  rfl

set_option maxRecDepth 100000 in
set_option maxHeartbeats 1000000 in
theorem extend_any (base : Nat) (v : Value) (n : Nat) (xs : List Value) (a2 : Option Addr) (m c2 : Nat) (ys : List Value) (w : World)
    (hown : w.ownsRow base 90 1 v n xs) (h2 : FlatT w 90 1 one1 a2 m c2 ys) (hone : ∀ u, u ∈ xs → u.oneCell' = true) (hone2 : ∀ u, u ∈ ys → u.oneCell' = true) (hb : base ≤ w.heap.size) (hnm : n + m ≤ 2147483647) :
    Calls Try.prog 48 #[v, .slice a2 m c2] w fun r w' => ∃ v', r = .returned v' ∧ w'.ownsRow base 90 1 v' (n + m) (xs ++ ys) ∧ w.grownBy w' v.ownBlock := by
  obtain ⟨i0, hi, hz0, hz1, hz2⟩ := info_parts infoEntP
  obtain ⟨a1, c1, rfl⟩ := ownsRow_shape hown
  have hyl := h2.length
  by_cases hc : n + m ≤ c1
  · rcases a2 with _ | ad
    · obtain ⟨rfl, rfl⟩ := h2.nil rfl
      obtain rfl := List.eq_nil_of_length_eq_zero hyl
      have X := Lib.hid hown
      clear hown h2 hyl hone hone2
      go_enter Try.func48, Try.ntmps48
      go_wp2_with (at_builtin; refine wpList_append_own_none rfl _ _ 69 rfl base 90 i0 1 Try.underlying69 hi _ _ _ rfl X.out rfl ?_)
      refine bodyPost_ret (results_tmp rfl _ _ _) rfl ?_
      exact ⟨_, rfl, by simpa using X.out, World.grownBy_of_ext (Ext.refl _)⟩
    · have X := Lib.hid hown
      have Y := Lib.hid h2
      have O := Lib.hid hone2
      have L := Lib.hid hyl
      clear hown h2 hyl hone hone2
      have hcm : ((n : Int) + m) ≤ c1 := by omega
      go_enter Try.func48, Try.ntmps48
      go_wp2_with (at_builtin; refine wpList_append_own _ rfl _ _ 69 rfl base 90 i0 (.pointer none) 1 8 Try.underlying69 hi hz0 hz1 hz2 rfl (by decide) _ _ _ rfl X.out ad m c2 ys rfl (by rw [L.out]; omega) (Y.out.news1) O.out (by unfold maxLen; omega) (by omega) hb ?_; intro v' w1 hown1 hgrow1 _)
      refine bodyPost_ret (results_tmp rfl _ _ _) rfl ?_
      exact ⟨_, rfl, hown1, hgrow1⟩
  · have X := Lib.hid hown
    have Y := Lib.hid h2
    have O := Lib.hid hone
    have O2 := Lib.hid hone2
    have L := Lib.hid hyl
    clear hown h2 hyl hone hone2
    have hcm : (c1 : Int) < (n : Int) + m := by omega
    go_enter Try.func48, Try.ntmps48
    have XL : Hid (xs.length = n) := by have := X.out.1; rw [Nat.mul_one] at this; exact this
    have XF : Hid (∀ W, Ext w W → 0 < xs.length → ∃ ad, a1 = some ad ∧ ∀ (j : Nat) (u : Value), xs[j]? = some u → W.cell? (ad.add j) = some u) := fun W hW hp => ((FlatT.of_owns X.out).keep (hW.keep [90]) (List.mem_singleton.2 rfl)).pos hp
    have YF : Hid (∀ W, Ext w W → 0 < ys.length → ∃ ad, a2 = some ad ∧ ∀ (j : Nat) (u : Value), ys[j]? = some u → W.cell? (ad.add j) = some u) := fun W hW hp => (Y.out.keep (hW.keep [90]) (List.mem_singleton.2 rfl)).pos hp
    go_wp2_with (first | (at_make; refine wpList_make_full _ rfl _ _ 69 rfl base 90 i0 (.pointer none) 1 Try.underlying69 hi hz0 hz1 _ _ _ _ (n + m) rfl rfl (by omega) (by omega) (by rw [hz2]; omega) (by unfold maxLen; omega) hb ?_; intro w1 hown1 hgrow1; go_loud (obtain ⟨-, cur, hcb, hcs, -, -, -⟩ := owns_blk hown1; have hB1 : Ext w w1 := Ext.grown (Ext.refl w) hgrow1 (fun k hk => by simp at hk); obtain ⟨Z, hZ⟩ : ∃ Z, Z = cur.toList := ⟨_, rfl⟩; have ZL := Lib.hid (show Z.length = n + m by rw [hZ]; simpa using hcs); have SL := Lib.hid (show (splice Z 0 xs).length = n + m by rw [length_splice _ _ _ (by rw [XL.out, ZL.out]; omega), ZL.out]); have HG1 := Lib.hid (show w1.heap[w.heap.size]? = some (.cells Z.toArray 90 (0, 0)) by rw [hZ]; exact hcb); clear hcb hcs hown1 hZ)) | ((with_reducible show wpList _ _ _ (⟨some 24, _, _, _, _, _⟩ :: _) _ _); refine wpList_copy_splice rfl (.tmp 22) (.tmp 23) 69 69 rfl 90 Try.underlying69 (by kernel_rfl) _ _ _ _ _ _ (by rfl) (by rfl) w.heap.size 0 Z 90 HG1.out xs (by rw [XL.out]; exact (Nat.min_eq_left (by omega)).symm) (fun hp => ⟨rfl, XF.out w1 (by assumption) hp⟩) (by rw [XL.out, ZL.out]; omega) O.out w.heap.size w hB1 (Nat.le_refl _) ?_; intro w2 HG2 hB2) | ((with_reducible show wpList _ _ _ (⟨some 30, _, _, _, _, _⟩ :: _) _ _); refine wpList_copy_splice rfl (.tmp 28) (.tmp 29) 69 69 rfl 90 Try.underlying69 (by kernel_rfl) _ _ _ _ _ _ (by rfl) (by rfl) w.heap.size n (splice Z 0 xs) 90 HG2.out ys (by rw [L.out]; exact (Nat.min_eq_left (by omega)).symm) (fun hp => ⟨by rw [L.out] at hp; first | rfl | rw [if_neg (by omega)] | (exfalso; omega), YF.out w2 (by assumption) hp⟩) (by rw [SL.out, L.out]; omega) O2.out w.heap.size w hB2 (Nat.le_refl _) ?_; intro w3 HG3 hB3))
    go_wp2
    all_goals
      refine bodyPost_ret (results_tmp rfl _ _ _) rfl ?_
      refine ⟨_, rfl, owns_of_blk hb HG3.out ?_ (Nat.le_refl _) (by unfold maxLen; omega) ?_, World.grownBy_of_ext hB3⟩
      · have := length_splice (splice Z 0 xs) n ys (by rw [SL.out, L.out]; omega)
        simp only [List.size_toArray]
        rw [this, SL.out]
        try omega
      · have h := splice2 (Z := Z) (xs := xs) (ys := ys) (by rw [ZL.out, XL.out, L.out])
        rw [XL.out] at h
        rw [h]
        simp only [List.toList_toArray]
        exact List.take_of_length_le (by rw [List.length_append, XL.out, L.out]; omega)

set_option maxHeartbeats 1000000 in
theorem zzExtend_any (base : Nat) (v : Value) (n : Nat) (xs : List Value) (a2 : Option Addr) (m c2 : Nat) (ys : List Value) (w : World)
    (hown : w.ownsRow base 90 1 v n xs) (h2 : FlatT w 90 1 one1 a2 m c2 ys) (hone : ∀ u, u ∈ xs → u.oneCell' = true) (hone2 : ∀ u, u ∈ ys → u.oneCell' = true) (hb : base ≤ w.heap.size) (hnm : n + m ≤ 2147483647) :
    Calls Try.prog 25 #[v, .slice a2 m c2] w fun r w' => ∃ a' c', r = .returned (.slice a' (n + m) c') ∧ w'.ownsRow base 90 1 (.slice a' (n + m) c') (n + m) (xs ++ ys) ∧ w.grownBy w' v.ownBlock := by
  obtain ⟨a1, c1, rfl⟩ := ownsRow_shape hown
  have X := Lib.hid hown
  have Y := Lib.hid h2
  have O := Lib.hid hone
  have O2 := Lib.hid hone2
  clear hown h2 hone hone2
  go_enter Try.func25, Try.ntmps25
  go_wp2_with (go_at_call 48; (with_reducible refine (extend_any base _ n xs a2 m c2 ys _ X.out Y.out O.out O2.out hb hnm).mono ?_); rintro e w1 ⟨v1, rfl, hown1, hgrow1⟩)
  obtain ⟨a', c', rfl⟩ := ownsRow_shape hown1
  refine bodyPost_ret (results_tmp rfl _ _ _) rfl ?_
  exact ⟨a', c', rfl, hown1, hgrow1⟩
end Go.Proofs.Ythfdhamencefiaa
