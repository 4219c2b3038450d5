/-
  ProgressRun's first closure, where no flights are given.
-/
import Derived.Test.YthfdhamencefiaaRows
import Derived.Test.YthfdhamencefiaaBase
import Derived.Test.YthfdhamencefiaaSees
import Derived.Test.YthfdhamencefiaaInfl
import Derived.Test.YthfdhamencefiaaFlight
import Derived.Test.YthfdhamencefiaaFlightB
import Derived.Test.YthfdhamencefiaaPgs
import Derived.Test.YthfdhamencefiaaPgsC
import Derived.Test.YthfdhamencefiaaPgsR
import Derived.Test.YthfdhamencefiaaInflC
import Derived.Deep.RegionLaw
import Derived.Deep.AppendLies
set_option linter.unusedVariables false
set_option linter.unusedSimpArgs false
namespace Go.Proofs.Ythfdhamencefiaa
open Go.RowKit

theorem infoPA : (Try.prog.info? 62).map (fun i => (i.zero, i.size, i.bytes)) = some (some (.agg pgZero), 12, 64) := by kernel_rfl
theorem pgAns_one (size : Nat) (max : Int) (f : Bool) (s : PgS) : ∀ u ∈ (pgAns size max f s).toList, u.oneCell' = true := by simp [pgAns, Value.oneCell']
theorem pgAns_news (w : World) (size : Nat) (max : Int) (f : Bool) (s : PgS) {b : Nat} (hb : b = w.heap.size) : ∀ (j : Nat) (u : Value), (pgAns size max f s).toList[j]? = some u → (w.alloc (.cells (pgAns size max f s) 62)).cell? ((⟨b, 0, none⟩ : Addr).add j) = some u := by
  subst hb; exact World.news_of_block (heap_alloc_new w _)

set_option maxRecDepth 100000 in
set_option maxHeartbeats 4000000 in
theorem runInit (px pi po pp p b : Nat) (v : Value) (size : Nat) (max : Int) (s : PgS) (cx : Array Value) (w : World) (h : PgP w p b v size max s)
    (hx : Blk w px cx 49) (hx9 : cx[9]? = some (.slice none 0 0)) (ho : Blk w po #[.slice none 0 0] 56) (hp : Blk w pp #[(Value.pointer (some ⟨p, 0, none⟩))] 81) :
    Calls Try.prog 35 #[(Value.pointer (some ⟨px, 0, none⟩)), (Value.pointer (some ⟨pi, 0, none⟩)), (Value.pointer (some ⟨po, 0, none⟩)), (Value.pointer (some ⟨pp, 0, none⟩))] w fun r w' => r = .returned (.tuple #[]) ∧ ∃ g cap, w'.ownsRow w.heap.size 62 12 (.slice (some ⟨g, 0, none⟩) 1 cap) 1 (pgAns size max false s).toList ∧ Blk w' po #[.slice (some ⟨g, 0, none⟩) 1 cap] 56 ∧ Chg (fun k => k = po) w w' := by
  obtain ⟨i0, hi, hz0, hz1, hz2⟩ := info_parts infoPA
  have x9 : w.cell? ⟨px, 9, none⟩ = some (.slice none 0 0) := (hx.cell 9).trans hx9
  have o0 := ho.cell 0
  have p0 := hp.cell 0
  have fo := ho.free 0
  simp at o0 p0
  have H := Lib.hid h
  have HO := Lib.hid ho
  have HP := Lib.hid hp
  have hq1 : ¬ pp = po := fun e => by subst e; exact hp.ne ho (by decide) rfl
  have hq2 : ¬ po = pp := fun e => hq1 e.symm
  clear h hx hx9 ho hp
  go_enter Try.func35, Try.ntmps35
  go_wp2_with fail
  refine wp_loop_rounds 1 ?_
  rw [rounds_succ]
  go_wp2_with fail
  go_region_law
    (first | (go_simp; go_at_call 37; (with_reducible refine (progressOf_any p b v size max s false _ (H.out.ext (by (repeat (first | with_reducible exact Ext.refl _ | with_reducible assumption | with_reducible apply Ext.alloc | with_reducible apply Ext.drew | with_reducible apply Ext.drewN | (with_reducible refine Ext.trans ?_ (by assumption)) | ((with_reducible refine Ext.set ?_ ?_ _); rotate_left; (focus (first | (simp; done) | omega | (simp; omega))))))))).mono ?_); rintro e w2 ⟨rfl, he2⟩; have E2 := Lib.hid he2; have b1 := (HP.out.drewN _).ext he2; have b2 := (HO.out.drewN _).ext he2; have x0 := b1.cell 0; have x1 := b2.cell 0; have y1 := b2.free 0; simp at x0 x1; have hlo : po < w2.heap.size := b2.lt; have B2 := Lib.hid b2; have B1 := Lib.hid b1; have hls : w.heap.size ≤ w2.heap.size := he2.size; clear b1 b2 he2; simp only [pgAns]) | (refine step_append_lies _ (by rfl) _ _ 56 (by rfl) w.heap.size 62 i0 _ 12 64 Try.underlying56 hi hz0 hz1 hz2 (by rfl) (by decide) (.slice none 0 0) 0 [] (by rfl) (World.ownsRow_nil _ _ _ _) ⟨w2.heap.size, 0, none⟩ 1 1 (pgAns size max false s).toList (by rfl) (by rfl) (pgAns_news _ _ _ _ _ rfl) (pgAns_one _ _ _ _) (by decide) (by decide) (by decide) (by simp; omega) (w2.heap.size + 1) (by simp) ?_; intro g cap w3 hown3 hgrow3 hat3 hlt3; have G3 := Lib.hid hgrow3; have O3 := Lib.hid hown3; have b5 := Blk.grown (B2.out.alloc _) hgrow3 (fun h => by cases h); have b6 := Blk.grown (B1.out.alloc _) hgrow3 (fun h => by cases h); have y5 := b5.cell 0; have y6 := b6.cell 0; have y7 := b5.free 0; simp at y5 y6; have B5 := Lib.hid b5; clear b5 b6 hgrow3 hown3))
  all_goals
    have hg2 : w.heap.size ≤ g := (O3.out.lt g rfl).1
    have hne : po ≠ g := by
      have hlo : po < w.heap.size := HO.out.lt
      omega
    have hE3 : Ext w w3 := Ext.grown ((((Ext.refl w).drew).trans E2.out).alloc _) G3.out (fun j hj => by cases hj)
    have hS : Chg (fun k => k = po) w (w3.setCell ⟨po, 0, none⟩ (.slice (some ⟨g, 0, none⟩) 1 cap)) := (Chg.of_ext (F := fun k => k = po) hE3).set (p := ⟨po, 0, none⟩) (.inl rfl) _
    have hT : Chg (fun k => k = po) w3 (w3.setCell ⟨po, 0, none⟩ (.slice (some ⟨g, 0, none⟩) 1 cap)) := (Chg.refl (fun k => k = po) w3).set (p := ⟨po, 0, none⟩) (.inl rfl) _
    refine bodyPost_end (results_none rfl _ _ _) rfl ⟨rfl, g, cap, ?_, B5.out.set 0 _, hS⟩
    have ho := O3.out
    rw [List.nil_append] at ho
    refine ⟨ho.1, ho.2.imp id fun ⟨g', cap', cur, q1, q2, q3, q4⟩ => ⟨g', cap', cur, q1, q2, ?_, q4⟩⟩
    have hgg : g' = g := by simp at q1; exact q1.1.symm
    exact (hT.block g' (lt_of_block q3) (fun e => hne (by rw [← e, hgg]))).trans q3
end Go.Proofs.Ythfdhamencefiaa
