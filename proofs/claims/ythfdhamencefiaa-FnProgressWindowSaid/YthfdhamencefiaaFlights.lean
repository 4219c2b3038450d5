/-
  A row of calls on a new Inflights.
-/
import Derived.Test.YthfdhamencefiaaRows
import Derived.Test.YthfdhamencefiaaBase
import Derived.Test.YthfdhamencefiaaSees
import Derived.Test.YthfdhamencefiaaEntP
import Derived.Test.YthfdhamencefiaaFrom
import Derived.Test.YthfdhamencefiaaInfl
import Derived.Test.YthfdhamencefiaaInflA
import Derived.Test.YthfdhamencefiaaFlight
import Derived.Test.YthfdhamencefiaaFlightB
set_option linter.unusedVariables false
set_option linter.unusedSimpArgs false
namespace Go.Proofs.Ythfdhamencefiaa
open Go.RowKit

def FCall.cells (c : FCall) : List Value := [.int .i64 c.kind, .int .u64 c.A, .int .u64 c.B]
def FCall.ok (c : FCall) : Prop := (0 ≤ c.A ∧ c.A < 18446744073709551616) ∧ (0 ≤ c.B ∧ c.B < 18446744073709551616)
def flAnsL (size : Nat) (max : Int) (o : Option (List (Int × Int))) : List Value := (flAns size max o).toList
theorem flAnsL_length (size : Nat) (max : Int) (o : Option (List (Int × Int))) : (flAnsL size max o).length = 3 := by cases o <;> rfl
theorem flAns_one (size : Nat) (max : Int) (o : Option (List (Int × Int))) : ∀ u, u ∈ flAnsL size max o → u.oneCell' = true := by cases o <;> simp [flAnsL, flAns, Value.oneCell']

/-- What a row of calls answers: it ends behind the first panic. -/
def flRun (size : Nat) (max : Int) : List (Int × Int) → List FCall → List (Option (List (Int × Int)))
  | _, [] => []
  | L, c :: r => match flStep size max L c with
    | none => [none]
    | some M => some M :: flRun size max M r

theorem owns_chg {w w' : World} {base : Nat} {e : TypeId} {size n : Nat} {v : Value} {xs : List Value} (h : w.ownsRow base e size v n xs) {F : Nat → Prop} (c : Chg F w w') (hF : ∀ g cur, Blk w g cur e → ¬ F g) : w'.ownsRow base e size v n xs := by
  refine ⟨h.1, h.2.imp id fun ⟨g, cap, cur, h1, h2, h3, h4⟩ => ⟨g, cap, cur, h1, h2, (c.block g (lt_of_block h3) (hF g cur h3)).trans h3, h4⟩⟩

theorem drop_of {α : Type} {l : List α} {k : Nat} {x : α} (h : l[k]? = some x) : l.drop k = x :: l.drop (k + 1) := by
  obtain ⟨hk, he⟩ := List.getElem?_eq_some_iff.1 h
  rw [List.drop_eq_getElem_cons hk, he]

theorem infoFA : (Try.prog.info? 35).map (fun i => (i.zero, i.size, i.bytes)) = some (some (.agg #[.int .i64 0, .bool false, .bool false]), 3, 16) := by kernel_rfl

theorem cells_of_newAt (w : World) (c : Array Value) (t : TypeId) {xs : List Value} {b : Nat} (hb : b = w.heap.size) (hx : c.toList = xs) : ∀ (j : Nat) (u : Value), xs[j]? = some u → (w.alloc (.cells c t)).cell? ((⟨b, 0, none⟩ : Addr).add j) = some u := by
  subst hb; exact cells_of_new w c t hx

theorem Chg.of_grown {a b c : World} {row : Option Nat} (h : Ext a b) (hg : b.grownBy c row) : Chg (fun k => row = some k) a c :=
  ⟨hg.os.trans h.os, hg.tape.trans h.tape, hg.output.trans h.output, Nat.le_trans h.size hg.size, fun k hk hF => (hg.block k (Nat.lt_of_lt_of_le hk h.size) (fun e => hF e.symm)).trans (h.block k hk)⟩
theorem owns_blk {w : World} {base : Nat} {e : TypeId} {size n : Nat} {v : Value} {xs : List Value} (h : w.ownsRow base e size v n xs) {g : Nat} (hg : v.ownBlock = some g) : ∃ cur, Blk w g cur e := by
  rcases h.2 with ⟨rfl, _⟩ | ⟨g', cap, cur, rfl, _, hb, _⟩
  · cases hg
  · have h : some g' = some g := hg
    simp at h
    subst h
    exact ⟨cur, hb⟩

theorem inf_new {w : World} {b : Nat} {u : Value} (hb : w.heap.size ≤ b) (hu : ∀ g, u.ownBlock = some g → w.heap.size ≤ g) (k : Nat) (hk : k < w.heap.size) : ¬ InfF b u k := by
  rintro (rfl | h)
  · omega
  · have := hu k h; omega
theorem inf_notA {w : World} {b : Nat} {u : Value} {size : Nat} {max : Int} {L : List (Int × Int)} (h : InfP w b u size max L) (g : Nat) (cur : Array Value) (hg : Blk w g cur 35) : ¬ InfF b u g := h.notF hg (by decide) (by decide)

set_option maxRecDepth 100000 in
set_option maxHeartbeats 2000000 in
theorem flights_any (size : Nat) (max : Int) (a : Option Addr) (n c : Nat) (l : List FCall) (w : World) (hs : size ≤ 1000) (hm : 0 ≤ max ∧ max < 18446744073709551616) (h : FlatRow w 3 FCall.cells a n c l) (hk : ∀ x, x ∈ l → x.ok) (hn : n ≤ 2147483647) :
    Calls Try.prog 12 #[.int .i64 size, .int .u64 max, .slice a n c] w fun r w' => ∃ v m, r = .returned v ∧ m ≤ n ∧ w'.ownsRow w.heap.size 35 3 v m ((flRun size max [] l).flatMap (flAnsL size max)) ∧ Ext w w' := by
  obtain ⟨i0, hi, hz0, hz1, hz2⟩ := info_parts infoFA
  have hl := h.length
  have X := Lib.hid h
  have HK := Lib.hid hk
  have HL := Lib.hid hl
  clear h hk hl
  go_enter Try.func12, Try.ntmps12
  go_wp2_with (go_at_call 27; (with_reducible refine (newInflights size max _ hs hm).mono ?_); rintro r w0 ⟨b, rfl, hb0, hi0, he0⟩; have HI0 := Lib.hid hi0; clear hi0)
  go_loopw [8, 17] (fun v i wr => ∃ (k : Nat) (outs : List (Option (List (Int × Int)))) (L : List (Int × Int)) (u : Value), k ≤ n ∧ i = .int .i64 k ∧ wr.ownsRow w.heap.size 35 3 v k (outs.flatMap (flAnsL size max)) ∧ flRun size max [] l = outs ++ flRun size max L (l.drop k) ∧ InfP wr b u size max L ∧ (∀ g, u.ownBlock = some g → w.heap.size ≤ g) ∧ Ext w wr) (fun _ i _ => n - (intOf i).toNat)
  case atStart => exact ⟨0, [], [], _, Nat.zero_le _, rfl, World.ownsRow_nil _ _ _ _, by simp, HI0.out, (fun g hg => by cases hg), he0⟩
  case round =>
    obtain ⟨k, outs, L, u, hk, rfl, hown, hrun, hinf, hub, hext⟩ := hrel
    by_cases hlt : k < n
    · obtain ⟨⟨kd, A, B⟩, hy⟩ := get_of_lt l (k := k) (by rw [HL.out]; exact hlt)
      obtain ⟨ab, off, rfl, hc⟩ := X.out.at_ k _ hy
      have c0 : wr.cell? ⟨ab, off + k * 3 + 0, none⟩ = some (.int .i64 kd) := by rw [Below.cell hext (World.block_lt_of_cell? w _ (hc 0 _ rfl))]; exact hc 0 _ rfl
      have c1 : wr.cell? ⟨ab, off + k * 3 + 1, none⟩ = some (.int .u64 A) := by rw [Below.cell hext (World.block_lt_of_cell? w _ (hc 1 _ rfl))]; exact hc 1 _ rfl
      have c2 : wr.cell? ⟨ab, off + k * 3 + 2, none⟩ = some (.int .u64 B) := by rw [Below.cell hext (World.block_lt_of_cell? w _ (hc 2 _ rfl))]; exact hc 2 _ rfl
      rw [Nat.add_zero] at c0
      obtain ⟨hA, hB⟩ := HK.out _ (List.mem_of_getElem? hy)
      have HY := Lib.hid hy
      have HR := Lib.hid hrun
      have HI := Lib.hid hinf
      have HO := Lib.hid hown
      clear hc hy hrun hinf hown
      rcases hst : flStep size max L ⟨kd, A, B⟩ with _ | M
      · go_wp2_with (first | (go_at_call 28; refine (flight_any b u size max L kd A B _ (HI.out.ext (by (repeat (first | with_reducible exact Ext.refl _ | with_reducible assumption | with_reducible apply Ext.alloc | with_reducible apply Ext.drew | with_reducible apply Ext.drewN | (with_reducible refine Ext.trans ?_ (by assumption)) | ((with_reducible refine Ext.set ?_ ?_ _); rotate_left; (focus (first | (simp; done) | omega | (simp; omega)))))))) hA hB).mono ?_; rintro r w1 ⟨u1, rfl, hi1, hf1, hc1⟩; rw [hst] at hi1; simp only [hst, flAns]; have E1 : Ext w w1 := ((Chg.of_ext (hext.alloc _)).trans hc1).ext (inf_new hb0 hub); have HO1 := Lib.hid (owns_chg (HO.out.alloc _) hc1 (inf_notA (HI.out.ext ((Ext.refl _).alloc _)))); have HF1 := Lib.hid hf1; have HI1 := Lib.hid hi1; clear hi1 hf1 hc1) | (at_builtin; refine wpList_append_own _ rfl _ _ 32 rfl w.heap.size 35 i0 _ 3 16 Try.underlying32 hi hz0 hz1 hz2 rfl (by decide) _ _ _ rfl ((HO1.out.alloc _).alloc _) ⟨w1.heap.size + 1, 0, none⟩ 1 1 (flAnsL size max none) rfl rfl (cells_of_newAt _ _ _ (by simp) (by rfl)) (flAns_one _ _ _) (by unfold maxLen; omega) (by omega) (by simp; have := E1.size; omega) ?_; intro v2 w2 hown2 hgrow2 _; obtain ⟨ad2, cc2, rfl⟩ := ownsRow_shape hown2; have c11 : w2.cell? ⟨w1.heap.size, 2, none⟩ = some (.bool true) := (Blk.grown (b := w1.heap.size) (c := #[.int .i64 0, .bool false, .bool true]) (t := 35) (by simp [blk_alloc]) hgrow2 (fun hk => by have := (HO1.out.lt _ hk).2; omega)).cell 2; have E2 : Ext w w2 := Ext.grown ((E1.alloc _).alloc _) hgrow2 (fun j hj => (HO1.out.lt j hj).1); have HW2 := Lib.hid hown2; have HG2 := Lib.hid hgrow2; clear hown2 hgrow2) | fail)
        refine bodyPost_ret (results_tmp rfl _ _ _) rfl ⟨_, rfl, k + 1, by omega, ?_, E2⟩
        have e : flRun size max [] l = outs ++ [none] := by rw [HR.out, drop_of HY.out, flRun, hst]
        rw [e, List.flatMap_append, List.flatMap_singleton]
        exact HW2.out
      · go_wp2_with (first | (go_at_call 28; refine (flight_any b u size max L kd A B _ (HI.out.ext (by (repeat (first | with_reducible exact Ext.refl _ | with_reducible assumption | with_reducible apply Ext.alloc | with_reducible apply Ext.drew | with_reducible apply Ext.drewN | (with_reducible refine Ext.trans ?_ (by assumption)) | ((with_reducible refine Ext.set ?_ ?_ _); rotate_left; (focus (first | (simp; done) | omega | (simp; omega)))))))) hA hB).mono ?_; rintro r w1 ⟨u1, rfl, hi1, hf1, hc1⟩; rw [hst] at hi1; simp only [hst, flAns]; have E1 : Ext w w1 := ((Chg.of_ext (hext.alloc _)).trans hc1).ext (inf_new hb0 hub); have HO1 := Lib.hid (owns_chg (HO.out.alloc _) hc1 (inf_notA (HI.out.ext ((Ext.refl _).alloc _)))); have HF1 := Lib.hid hf1; have HI1 := Lib.hid hi1; clear hi1 hf1 hc1) | (at_builtin; refine wpList_append_own _ rfl _ _ 32 rfl w.heap.size 35 i0 _ 3 16 Try.underlying32 hi hz0 hz1 hz2 rfl (by decide) _ _ _ rfl ((HO1.out.alloc _).alloc _) ⟨w1.heap.size + 1, 0, none⟩ 1 1 (flAnsL size max (some M)) rfl rfl (cells_of_newAt _ _ _ (by simp) (by rfl)) (flAns_one _ _ _) (by unfold maxLen; omega) (by omega) (by simp; have := E1.size; omega) ?_; intro v2 w2 hown2 hgrow2 _; obtain ⟨ad2, cc2, rfl⟩ := ownsRow_shape hown2; have c11 : w2.cell? ⟨w1.heap.size, 2, none⟩ = some (.bool false) := (Blk.grown (b := w1.heap.size) (c := #[.int .i64 M.length, .bool (fullB size max M), .bool false]) (t := 35) (by simp [blk_alloc]) hgrow2 (fun hk => by have := (HO1.out.lt _ hk).2; omega)).cell 2; have E2 : Ext w w2 := Ext.grown ((E1.alloc _).alloc _) hgrow2 (fun j hj => (HO1.out.lt j hj).1); have HW2 := Lib.hid hown2; have HG2 := Lib.hid hgrow2; clear hown2 hgrow2) | fail)
        go_roundw
        case rel =>
          refine ⟨k + 1, outs ++ [some M], M, u1, by omega, by go_num, by rw [List.flatMap_append, List.flatMap_singleton]; exact HW2.out, ?_, ?_, ?_, E2⟩
          · rw [HR.out, drop_of HY.out, flRun, hst]; simp
          · have hi2 := HI1.out
            simp only [Option.getD_some] at hi2
            refine hi2.chg (Chg.of_grown ((Ext.refl w1).alloc _ |>.alloc _) HG2.out) (fun g hg => ?_)
            obtain ⟨cur, hb⟩ := owns_blk HO1.out hg
            exact hi2.notF hb (by decide) (by decide)
          · intro g hg
            rcases HF1.out g hg with h | h
            · exact hub g h
            · have := hext.size; simp at h; omega
        case measure => simp [intOf]; omega
    · obtain rfl : k = n := by omega
      rw [List.drop_eq_nil_of_le (by rw [HL.out]; omega)] at hrun
      obtain ⟨a', c', rfl⟩ := ownsRow_shape hown
      have Z := Lib.hid hown
      have HR := Lib.hid hrun
      clear hown hrun
      go_wp2
      refine bodyPost_ret (results_tmp rfl _ _ _) rfl ?_
      refine ⟨_, k, rfl, Nat.le_refl _, ?_, hext⟩
      rw [HR.out, flRun, List.append_nil]
      exact Z.out
end Go.Proofs.Ythfdhamencefiaa
