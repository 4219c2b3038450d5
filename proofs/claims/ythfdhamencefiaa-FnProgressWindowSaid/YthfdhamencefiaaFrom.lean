/-
  entriesFrom: the package's entries as plain ones.
-/
import Derived.Test.YthfdhamencefiaaRows
import Derived.Test.YthfdhamencefiaaBase
import Derived.Test.YthfdhamencefiaaSees
import Derived.Test.YthfdhamencefiaaBytes
import Derived.Test.YthfdhamencefiaaEnt
import Derived.Test.YthfdhamencefiaaEntP
set_option linter.unusedVariables false
set_option linter.unusedSimpArgs false
namespace Go.Proofs.Ythfdhamencefiaa
open Go.RowKit

set_option maxHeartbeats 400000 in
theorem entType (b : Nat) (e : Ent) (w : World) (h : EntP w (Value.pointer (some ⟨b, 0, none⟩)) e) :
    Calls Try.prog 46 #[(Value.pointer (some ⟨b, 0, none⟩))] w fun r w' => r = .returned (.int .i32 e.kind) ∧ w = w' := by
  obtain ⟨b0, p1, p2, p3, dv, hv, hb, -, -, h3, -⟩ := h
  simp at hv
  subst hv
  have d0 := hb.cell 2
  rcases h3 with ⟨h30, rfl⟩ | ⟨h30, b3, rfl, hb3⟩
  · simp at d0
    clear hb
    go_enter Try.func46, Try.ntmps46
    go_wp2
    refine bodyPost_ret (results_tmp rfl _ _ _) rfl ?_
    exact ⟨by rw [h30]; rfl, rfl⟩
  · have d1 := hb3.cell 0
    simp at d0 d1
    clear hb hb3
    go_enter Try.func46, Try.ntmps46
    go_wp2
    go_ret
    exact ⟨rfl, rfl⟩

set_option maxHeartbeats 400000 in
theorem entData (b : Nat) (e : Ent) (w : World) (h : EntP w (Value.pointer (some ⟨b, 0, none⟩)) e) :
    Calls Try.prog 47 #[(Value.pointer (some ⟨b, 0, none⟩))] w fun r w' => ∃ a c, r = .returned (.slice a e.data.size c) ∧ BytesP 5 w (.slice a e.data.size c) e.data ∧ w = w' := by
  obtain ⟨b0, p1, p2, p3, dv, hv, hb, -, -, -, h4, -⟩ := h
  simp at hv
  subst hv
  have d0 := hb.cell 3
  obtain ⟨a, c, rfl⟩ := h4.shape
  simp at d0
  have X := Lib.hid h4
  clear hb h4
  go_enter Try.func47, Try.ntmps47
  go_wp2
  refine bodyPost_ret (results_tmp rfl _ _ _) rfl ?_
  exact ⟨a, c, rfl, X.out, rfl⟩

/-- the cells of a new row, as the append law asks them -/
theorem cells_of_new (w : World) (c : Array Value) (t : TypeId) {xs : List Value} (hx : c.toList = xs) : ∀ (j : Nat) (u : Value), xs[j]? = some u → (w.alloc (.cells c t)).cell? ((⟨w.heap.size, 0, none⟩ : Addr).add j) = some u := by
  intro j u hu
  have hadd : (⟨w.heap.size, 0, none⟩ : Addr).add j = ⟨w.heap.size, 0 + j, none⟩ := by unfold Addr.add; split <;> simp_all
  rw [hadd, cell_of_row (w.alloc _) w.heap.size _ c t (0, 0) (heap_alloc_new _ _), ← hu, ← hx, Nat.zero_add]
  simp

set_option maxRecDepth 100000 in
set_option maxHeartbeats 1000000 in
theorem entriesFrom_any (a : Option Addr) (n c : Nat) (l : List Ent) (w : World) (h : EntsP w a n c l) (hk : ∀ e, e ∈ l → -2147483648 ≤ e.kind ∧ e.kind ≤ 2147483647) (hn : n ≤ 2147483647) :
    Calls Try.prog 24 #[.slice a n c] w fun r w' => ∃ v, r = .returned v ∧ w'.ownsRow w.heap.size 66 4 v n (l.flatMap Ent.cells) ∧ Ext w w' := by
  obtain ⟨i0, hi, hz0, hz1, hz2⟩ := info_parts infoEnt
  have hl := h.length
  have X := Lib.hid h
  have HK := Lib.hid hk
  have HL := Lib.hid hl
  clear h hk hl
  go_enter Try.func24, Try.ntmps24
  go_wp2
  go_loopw [3, 8] (fun v i wr => ∃ (k : Nat), k ≤ n ∧ i = .int .i64 k ∧ wr.ownsRow w.heap.size 66 4 v k ((l.take k).flatMap Ent.cells) ∧ Ext w wr) (fun _ i _ => n - (intOf i).toNat)
  case atStart => exact ⟨0, Nat.zero_le _, rfl, World.ownsRow_nil _ _ _ _, Ext.refl _⟩
  case round =>
    obtain ⟨k, hk, rfl, hown, hext⟩ := hrel
    by_cases hlt : k < n
    · obtain ⟨y, b, off, d, hy, rfl, hcell, hp⟩ := X.out.get hlt
      have c0 := hext.cellAt hcell
      have hky := HK.out y (List.mem_of_getElem? hy)
      have Z := Lib.hid (And.intro hy (hp.ext hext))
      have hkw : IntKind.i64.wrap y.kind = y.kind := by rw [IntKind.wrap_i64]; omega
      clear hy hp hcell
      go_wp2_with (first | (go_at_call 44; (with_reducible refine (entTerm d y _ Z.out.2).mono ?_); rintro r w1 ⟨rfl, rfl⟩) | (go_at_call 45; (with_reducible refine (entIndex d y _ Z.out.2).mono ?_); rintro r w1 ⟨rfl, rfl⟩) | (go_at_call 46; (with_reducible refine (entType d y _ Z.out.2).mono ?_); rintro r w1 ⟨rfl, rfl⟩) | (go_at_call 47; (with_reducible refine (entData d y _ Z.out.2).mono ?_); rintro r w1 ⟨av, cv, rfl, hbp, rfl⟩; have hsr := stringRun hbp) | (at_builtin; refine wpList_append_own _ rfl _ _ 22 rfl w.heap.size 66 i0 _ 4 40 Try.underlying22 hi hz0 hz1 hz2 rfl (by decide) _ _ _ rfl (hown.alloc _) ⟨wr.heap.size, 0, none⟩ 1 1 y.cells rfl rfl (cells_of_new _ _ _ (by rfl)) (by simp [Ent.cells, Value.oneCell']) (by unfold maxLen; omega) (by omega) (by simp; have := hext.size; omega) ?_; intro v' w2 hown2 hgrow2 _))
      have E2 : Ext w w2 := Ext.grown (hext.alloc _) hgrow2 (fun j hj => (hown.lt j hj).1)
      go_roundw
      case rel => exact ⟨k + 1, by omega, by go_num, by rw [take_succ_of Z.out.1, List.flatMap_append, List.flatMap_singleton]; exact hown2, E2⟩
      case measure => simp [intOf]; omega
    · obtain rfl : k = n := by omega
      rw [List.take_of_length_le (by rw [HL.out]; omega)] at hown
      obtain ⟨a', c', rfl⟩ := ownsRow_shape hown
      have Z := Lib.hid hown
      clear hown
      go_wp2
      refine bodyPost_ret (results_tmp rfl _ _ _) rfl ?_
      exact ⟨_, rfl, Z.out, hext⟩
end Go.Proofs.Ythfdhamencefiaa
