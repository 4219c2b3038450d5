/-
  bytesOf, and a string out of bytes.
-/
import Derived.Test.YthfdhamencefiaaRows
import Derived.Test.YthfdhamencefiaaBase
import Derived.Laws.IdiomStrings
import Derived.Laws.BytesArg
set_option linter.unusedVariables false
set_option linter.unusedSimpArgs false
namespace Go.Proofs.Ythfdhamencefiaa
open Go.RowKit

/-- what the walk does at '[]byte(s)' -/
theorem bytesRun (s : ByteArray) (w : World) : (convert 9 94 (.string s)).run Try.prog w = .ok (.slice (some ⟨w.heap.size, 0, none⟩) s.size (grownCap w s.size 0 5))
      (w.drew.alloc (.cells (bytesRow s (grownCap w s.size 0 5)) 5 ((bytesRow s (grownCap w s.size 0 5)).size, (bytesRow s (grownCap w s.size 0 5)).size + 1))) :=
  run_bytes_of_string w 9 94 5 s Try.underlying9 Try.underlying94 Try.underlying5

theorem bytesRow_at (s : ByteArray) (cap j : Nat) (hj : j < s.size) : (bytesRow s cap)[j]? = some (.int .u8 ((s.data.toList.getD j 0).toNat : Int)) := by
  unfold bytesRow
  have hs : s.data.size = s.size := rfl
  rw [Array.getElem?_append_left (by simp; omega)]
  simp [List.getD, hs, hj]

set_option maxHeartbeats 400000 in
theorem bytesOf_any (s : ByteArray) (w : World) :
    Calls Try.prog 68 #[.string s] w fun e w' => ∃ v, e = .returned v ∧ (BytesP 5 w' v s ∧ (s.size = 0 → v = .slice none 0 0)) ∧ Ext w w' := by
  have hlen : s.toList.length = s.size := by rw [ByteArray.toList_eq]; simp
  by_cases h : s.size = 0
  · have h0 : s.toList = [] := List.eq_nil_of_length_eq_zero (by omega)
    have h1 : s.toList.isEmpty = true := by rw [h0]; rfl
    clear hlen
    have X := Lib.hid h
    clear h
    go_enter Try.func68, Try.ntmps68
    go_wp2
    refine bodyPost_ret (results_tmp rfl _ _ _) rfl ?_
    exact ⟨_, rfl, ⟨.inl ⟨rfl, X.out⟩, fun _ => rfl⟩, Ext.refl _⟩
  · have h1 : s.toList.isEmpty = false := by
      cases hl : s.toList with
      | nil => rw [hl] at hlen; simp at hlen; omega
      | cons a r => rfl
    have h2 : (!s.toList.isEmpty) = true := by rw [h1]; rfl
    have X := Lib.hid h
    clear hlen h
    have kc := fun W => bytesRun s W
    go_enter Try.func68, Try.ntmps68
    go_wp2
    refine bodyPost_ret (results_tmp rfl _ _ _) rfl ?_
    refine ⟨_, rfl, ⟨.inr ⟨_, 0, _, _, _, rfl, heap_alloc_new _ _, fun j hj => ?_⟩, fun h => absurd h X.out⟩, by (repeat (first | with_reducible exact Ext.refl _ | with_reducible assumption | with_reducible apply Ext.alloc | with_reducible apply Ext.drew | with_reducible apply Ext.drewN | (with_reducible refine Ext.trans ?_ (by assumption)) | ((with_reducible refine Ext.set ?_ ?_ _); rotate_left; (focus (first | (simp; done) | omega | (simp; omega))))))⟩
    rw [Nat.zero_add]
    exact bytesRow_at _ _ _ hj

/-- what the walk does at 'string(b)' -/
theorem stringRun {v : Value} {s : ByteArray} {w : World} (h : BytesP 5 w v s) : (convert 94 9 v).run Try.prog w = .ok (.string s) w := by
  rcases h with ⟨rfl, h0⟩ | ⟨b, o, cap, c, fr, rfl, hb, hc⟩
  · have hr := run_convert_bytes_nil (P := Try.prog) (w := w) 94 5 Try.underlying94 Try.underlying5 0 0 9 Try.underlying9
    have hs : s = ByteArray.empty := by
      have : s.data = #[] := Array.eq_empty_of_size_eq_zero h0
      cases s; simp at this; subst this; rfl
    subst hs
    exact hr
  · have hl : s.data.toList.length = s.size := by simp
    have := run_convert_bytes_back (P := Try.prog) w 94 9 5 ⟨b, o, none⟩ cap s.data.toList Try.underlying94 Try.underlying5 Try.underlying9 (fun j hj => by
      have hadd : (⟨b, o, none⟩ : Addr).add j = ⟨b, o + j, none⟩ := by unfold Addr.add; split <;> simp_all
      rw [hadd, cell_of_row w b (o + j) c _ _ hb, hc j (by omega)]
      simp [List.getD, List.getElem?_eq_getElem hj])
    rw [hl] at this
    simpa using this

end Go.Proofs.Ythfdhamencefiaa
