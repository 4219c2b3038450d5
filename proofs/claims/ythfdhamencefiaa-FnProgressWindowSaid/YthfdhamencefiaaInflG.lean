/-
  Inflights: the buffer grows.
-/
import Derived.Test.YthfdhamencefiaaRows
import Derived.Test.YthfdhamencefiaaBase
import Derived.Test.YthfdhamencefiaaSees
import Derived.Test.YthfdhamencefiaaCopy
import Derived.Test.YthfdhamencefiaaInfl
set_option linter.unusedVariables false
set_option linter.unusedSimpArgs false
namespace Go.Proofs.Ythfdhamencefiaa
open Go.RowKit

theorem infoFl : (Try.prog.info? 103).map (fun i => (i.zero, i.size, i.bytes)) = some (some (.agg #[.int .u64 0, .int .u64 0]), 2, 16) := by kernel_rfl

/-- what is known of a ring's buffer when it is read -/
theorem RingRow.pos {w : World} {v : Value} {R : List (Int × Int)} (h : RingRow w v R) : ∃ a c, v = .slice a R.length c ∧ (0 < R.length → ∃ g, a = some ⟨g, 0, none⟩ ∧ OwnRow w 0 g 103 2 flC c R) := by
  rcases h with ⟨rfl, rfl⟩ | ⟨g, cap, rfl, ho⟩
  · exact ⟨none, 0, rfl, fun h => by simp at h⟩
  · exact ⟨_, _, rfl, fun _ => ⟨g, rfl, ho⟩⟩
theorem fl_one {R : List (Int × Int)} {u : Value} (h : u ∈ R.flatMap flC) : u.oneCell' = true := by
  simp only [List.mem_flatMap, flC, List.mem_cons, List.not_mem_nil, or_false] at h
  obtain ⟨e, _, rfl | rfl⟩ := h <;> rfl

/-- What the grown buffer holds. -/
def grownR (R : List (Int × Int)) (k : Nat) : List (Int × Int) := R ++ List.replicate (k - R.length) (0, 0)
def growTo (m size : Nat) : Nat := if m = 0 then 1 else if size < m * 2 then size else m * 2

set_option maxRecDepth 100000 in
set_option maxHeartbeats 2000000 in
theorem grow_any (b : Nat) (c0 c1 c2 : Value) (size : Nat) (max : Int) (v : Value) (R : List (Int × Int)) (w : World) (hb : Blk w b #[c0, c1, c2, .int .i64 size, .int .u64 max, v] 99) (hr : RingRow w v R) (hs : size ≤ 1000) (hR : R.length < size) :
    Calls Try.prog 57 #[(Value.pointer (some ⟨b, 0, none⟩))] w fun r w' => ∃ g, r = .returned (.tuple #[]) ∧ w.heap.size ≤ g ∧ Blk w' b #[c0, c1, c2, .int .i64 size, .int .u64 max, .slice (some ⟨g, 0, none⟩) (growTo R.length size) (growTo R.length size)] 99 ∧
      OwnRow w' 0 g 103 2 flC (growTo R.length size) (grownR R (growTo R.length size)) ∧ Chg (fun k => k = b) w w' := by
  obtain ⟨i0, hi, hz0, hz1, hz2⟩ := info_parts infoFl
  obtain ⟨a, c, rfl, hpos⟩ := hr.pos
  obtain ⟨m, hm⟩ : ∃ m, m = R.length := ⟨_, rfl⟩
  obtain ⟨k, hk⟩ : ∃ k, k = growTo m size := ⟨_, rfl⟩
  have hkk : m < k ∧ k ≤ size ∧ (m = 0 → k = 1) ∧ (m ≠ 0 → size < m * 2 → k = size) ∧ (m ≠ 0 → ¬ size < m * 2 → k = m * 2) := by
    rw [hk]; unfold growTo
    split
    · omega
    · split <;> omega
  rw [← hm, ← hk]
  rw [← hm] at hb hpos
  obtain ⟨hk1, hk2, hk3, hk4, hk5⟩ := hkk
  have d3 := hb.cell 3
  have d5 := hb.cell 5
  have f5 := hb.free 5
  simp at d3 d5
  have HP := Lib.hid hpos
  have HB := Lib.hid hb
  have HM := Lib.hid hm
  have hbl := hb.lt
  have FL := Lib.hid (show (R.flatMap flC).length = m * 2 by rw [flatMap_length flC flC_length, hm])
  obtain ⟨cs, hcs⟩ : ∃ cs, cs = R.flatMap flC := ⟨_, rfl⟩
  rw [← hcs] at FL
  have CS := Lib.hid hcs
  obtain ⟨Z, hZ⟩ : ∃ Z, Z = (madeCells #[.int .u64 0, .int .u64 0] (k * 2)).toList := ⟨_, rfl⟩
  have ZL := Lib.hid (show Z.length = k * 2 by rw [hZ]; simp [size_madeCells])
  have HZ := Lib.hid hZ
  have O := Lib.hid (show ∀ u ∈ cs, u.oneCell' = true by rw [hcs]; exact fun u hu => fl_one hu)
  have SRC : Hid (∀ W, Ext w W → 0 < cs.length → ∃ ad, a = some ad ∧ ∀ j u, cs[j]? = some u → W.cell? (ad.add j) = some u) := fun W hW hp => by
    have hp' : 0 < m := by rw [FL.out] at hp; omega
    obtain ⟨g, rfl, ho⟩ := hpos hp'
    exact ⟨_, rfl, by rw [hcs]; exact (ho.flat.ext hW).newsAll flC_length (by decide)⟩
  clear hb hpos hm hr hcs hk hZ
  by_cases h0 : m = 0
  · obtain rfl := hk3 h0
    subst h0
    clear hk3 hk4 hk5
    go_enter Try.func57, Try.ntmps57
    go_wp2_with (first | (at_make; refine wpList_make_full _ rfl _ _ 97 rfl w.heap.size 103 i0 (.agg #[.int .u64 0, .int .u64 0]) 2 Try.underlying97 hi hz0 hz1 _ _ _ _ (1) rfl rfl (by omega) (by omega) (by rw [hz2]; omega) (by unfold maxLen; omega) (Nat.le_refl _) ?_; intro w1 hown1 hgrow1; obtain ⟨-, cur, hcb, hcc, -, -, hct⟩ := owns_blkN hown1; have hB1 : Ext w w1 := Ext.grown (Ext.refl w) hgrow1 (fun k hk => by simp at hk); have HG1 := Lib.hid (show w1.heap[w.heap.size]? = some (.cells Z.toArray 103 (0, 0)) by rw [List.take_of_length_le (by simp; omega)] at hct; rw [HZ.out]; simp only [Value.cells] at hct; rw [← hct]; exact hcb); clear hcb hcc hown1 hct; obtain ⟨rc1, rf1⟩ := hB1.reads) | ((with_reducible show wpList _ _ _ (⟨some 29, _, _, _, _, _⟩ :: _) _ _); refine wpList_copy_spliceN rfl (.tmp 24) (.tmp 28) 97 97 rfl 103 2 (by decide) Try.underlying97 (by kernel_rfl) _ _ _ _ _ _ (by rfl) (by rfl) w.heap.size 0 Z 103 HG1.out cs 0 (by simp) FL.out (fun hp => ⟨rfl, SRC.out w1 hB1 hp⟩) (by rw [ZL.out, FL.out]; omega) O.out w.heap.size w hB1 (Nat.le_refl _) ?_; intro w2 HG2 hB2; obtain ⟨rc2, rf2⟩ := Ext.reads hB2))
    refine bodyPost_end (results_none rfl _ _ _) rfl ?_
    have hb2 : Blk w2 b _ _ := HB.out.ext hB2
    have hg2 : Blk w2 w.heap.size _ _ := HG2.out
    have hne : w.heap.size ≠ b := by omega
    refine ⟨w.heap.size, rfl, Nat.le_refl _, hb2.set 5 _, ?_, Chg.set (F := fun k => k = b) (Chg.of_ext hB2) (.inl rfl) _⟩
    refine OwnRow.of_splice flC_length (0, 0) #[.int .u64 0, .int .u64 0] rfl R _ (by rw [← HM.out]; omega) (by unfold maxLen; omega) (Nat.zero_le _) ?_
    rw [← CS.out, ← HZ.out]
    exact hg2.setOther hne _
  · have h0' : ((m : Int) * 2 == 0) = false := by rw [beq_eq_false_iff_ne]; omega
    by_cases h1 : size < m * 2
    · obtain rfl := hk4 h0 h1
      clear hk3 hk4 hk5
      go_enter Try.func57, Try.ntmps57
      go_wp2_with (first | (at_make; refine wpList_make_full _ rfl _ _ 97 rfl w.heap.size 103 i0 (.agg #[.int .u64 0, .int .u64 0]) 2 Try.underlying97 hi hz0 hz1 _ _ _ _ (k) rfl rfl (by omega) (by omega) (by rw [hz2]; omega) (by unfold maxLen; omega) (Nat.le_refl _) ?_; intro w1 hown1 hgrow1; obtain ⟨-, cur, hcb, hcc, -, -, hct⟩ := owns_blkN hown1; have hB1 : Ext w w1 := Ext.grown (Ext.refl w) hgrow1 (fun k hk => by simp at hk); have HG1 := Lib.hid (show w1.heap[w.heap.size]? = some (.cells Z.toArray 103 (0, 0)) by rw [List.take_of_length_le (by simp; omega)] at hct; rw [HZ.out]; simp only [Value.cells] at hct; rw [← hct]; exact hcb); clear hcb hcc hown1 hct; obtain ⟨rc1, rf1⟩ := hB1.reads) | ((with_reducible show wpList _ _ _ (⟨some 29, _, _, _, _, _⟩ :: _) _ _); refine wpList_copy_spliceN rfl (.tmp 24) (.tmp 28) 97 97 rfl 103 2 (by decide) Try.underlying97 (by kernel_rfl) _ _ _ _ _ _ (by rfl) (by rfl) w.heap.size 0 Z 103 HG1.out cs m (by exact (Nat.min_eq_left (by omega)).symm) FL.out (fun hp => ⟨rfl, SRC.out w1 hB1 hp⟩) (by rw [ZL.out, FL.out]; omega) O.out w.heap.size w hB1 (Nat.le_refl _) ?_; intro w2 HG2 hB2; obtain ⟨rc2, rf2⟩ := Ext.reads hB2))
      refine bodyPost_end (results_none rfl _ _ _) rfl ?_
      have hb2 : Blk w2 b _ _ := HB.out.ext hB2
      have hg2 : Blk w2 w.heap.size _ _ := HG2.out
      have hne : w.heap.size ≠ b := by omega
      refine ⟨w.heap.size, rfl, Nat.le_refl _, hb2.set 5 _, ?_, Chg.set (F := fun k => k = b) (Chg.of_ext hB2) (.inl rfl) _⟩
      refine OwnRow.of_splice flC_length (0, 0) #[.int .u64 0, .int .u64 0] rfl R _ (by rw [← HM.out]; omega) (by unfold maxLen; omega) (Nat.zero_le _) ?_
      rw [← CS.out, ← HZ.out]
      exact hg2.setOther hne _
    · obtain rfl := hk5 h0 h1
      clear hk3 hk4 hk5
      go_enter Try.func57, Try.ntmps57
      go_wp2_with (first | (at_make; refine wpList_make_full _ rfl _ _ 97 rfl w.heap.size 103 i0 (.agg #[.int .u64 0, .int .u64 0]) 2 Try.underlying97 hi hz0 hz1 _ _ _ _ (m * 2) rfl rfl (by omega) (by omega) (by rw [hz2]; omega) (by unfold maxLen; omega) (Nat.le_refl _) ?_; intro w1 hown1 hgrow1; obtain ⟨-, cur, hcb, hcc, -, -, hct⟩ := owns_blkN hown1; have hB1 : Ext w w1 := Ext.grown (Ext.refl w) hgrow1 (fun k hk => by simp at hk); have HG1 := Lib.hid (show w1.heap[w.heap.size]? = some (.cells Z.toArray 103 (0, 0)) by rw [List.take_of_length_le (by simp; omega)] at hct; rw [HZ.out]; simp only [Value.cells] at hct; rw [← hct]; exact hcb); clear hcb hcc hown1 hct; obtain ⟨rc1, rf1⟩ := hB1.reads) | ((with_reducible show wpList _ _ _ (⟨some 29, _, _, _, _, _⟩ :: _) _ _); refine wpList_copy_spliceN rfl (.tmp 24) (.tmp 28) 97 97 rfl 103 2 (by decide) Try.underlying97 (by kernel_rfl) _ _ _ _ _ _ (by rfl) (by rfl) w.heap.size 0 Z 103 HG1.out cs m (by exact (Nat.min_eq_left (by omega)).symm) FL.out (fun hp => ⟨rfl, SRC.out w1 hB1 hp⟩) (by rw [ZL.out, FL.out]; omega) O.out w.heap.size w hB1 (Nat.le_refl _) ?_; intro w2 HG2 hB2; obtain ⟨rc2, rf2⟩ := Ext.reads hB2))
      refine bodyPost_end (results_none rfl _ _ _) rfl ?_
      have hb2 : Blk w2 b _ _ := HB.out.ext hB2
      have hg2 : Blk w2 w.heap.size _ _ := HG2.out
      have hne : w.heap.size ≠ b := by omega
      refine ⟨w.heap.size, rfl, Nat.le_refl _, hb2.set 5 _, ?_, Chg.set (F := fun k => k = b) (Chg.of_ext hB2) (.inl rfl) _⟩
      refine OwnRow.of_splice flC_length (0, 0) #[.int .u64 0, .int .u64 0] rfl R _ (by rw [← HM.out]; omega) (by unfold maxLen; omega) (Nat.zero_le _) ?_
      rw [← CS.out, ← HZ.out]
      exact hg2.setOther hne _
end Go.Proofs.Ythfdhamencefiaa
