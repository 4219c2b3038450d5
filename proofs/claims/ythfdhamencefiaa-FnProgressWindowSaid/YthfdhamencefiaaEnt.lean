/-
  Entries: the plain ones, and the package's.
-/
import Derived.Test.YthfdhamencefiaaRows
import Derived.Test.YthfdhamencefiaaBase
import Derived.Test.YthfdhamencefiaaSees
import Derived.Test.YthfdhamencefiaaBytes
import Derived.StillTailTactics
import Derived.Laws.AppendOwnNone
set_option linter.unusedVariables false
set_option linter.unusedSimpArgs false
namespace Go.Proofs.Ythfdhamencefiaa
open Go.RowKit

theorem Ent.cells_length (e : Ent) : e.cells.length = 4 := rfl
def fits5B (e : Ent) : Bool := decide (e.data.size ≤ 2147483647)

set_option maxHeartbeats 400000 in
theorem fits5 (e : Ent) (w : World) :
    Calls Try.prog 23 #[.agg #[.int .u64 e.term, .int .u64 e.index, .int .i64 e.kind, .string e.data]] w fun r w' => r = .returned (.bool (fits5B e)) ∧ Ext w w' := by
  by_cases h1 : e.data.size ≤ 2147483647
  all_goals
    go_enter Try.func23, Try.ntmps23
    go_wp2
    go_ret
    refine ⟨by simp [fits5B, h1], ?_⟩
    (repeat (first | with_reducible exact Ext.refl _ | with_reducible assumption | with_reducible apply Ext.alloc | with_reducible apply Ext.drew | with_reducible apply Ext.drewN | (with_reducible refine Ext.trans ?_ (by assumption)) | ((with_reducible refine Ext.set ?_ ?_ _); rotate_left; (focus (first | (simp; done) | omega | (simp; omega))))))

def fits4B (l : List Ent) : Bool := decide (l.length ≤ 2147483647) && l.all fits5B

set_option maxRecDepth 100000 in
set_option maxHeartbeats 1000000 in
theorem fits4 (a : Option Addr) (len cap : Nat) (l : List Ent) (w : World) (hrow : FlatRow w 4 Ent.cells a len cap l) :
    Calls Try.prog 8 #[.slice a len cap] w fun r w' => r = .returned (.bool (fits4B l)) ∧ Ext w w' := by
  have hl := hrow.length
  have X := Lib.hid hrow
  clear hrow
  by_cases hlen : len ≤ 2147483647
  · have HL := Lib.hid hl
    clear hl
    go_enter Try.func8, Try.ntmps8
    go_wp2
    go_loopw [10] (fun i wr => ∃ (k : Nat), k ≤ len ∧ i = .int .i64 k ∧ (l.take k).all fits5B = true ∧ Ext w wr) (fun i _ => len - (intOf i).toNat)
    case atStart => exact ⟨0, Nat.zero_le _, rfl, rfl, Ext.refl _⟩
    case round =>
      obtain ⟨k, hk, rfl, hall, hext⟩ := hrel
      by_cases hlt : k < len
      · obtain ⟨y, b, off, hy, rfl, hcell⟩ := X.out.get hlt
        have c0 : wr.cell? ⟨b, off + k * 4, none⟩ = some (.int .u64 y.term) := hext.cellAt (hcell 0 _ rfl)
        have c1 : wr.cell? ⟨b, off + k * 4 + 1, none⟩ = some (.int .u64 y.index) := hext.cellAt (hcell 1 _ rfl)
        have c2 : wr.cell? ⟨b, off + k * 4 + 2, none⟩ = some (.int .i64 y.kind) := hext.cellAt (hcell 2 _ rfl)
        have c3 : wr.cell? ⟨b, off + k * 4 + 3, none⟩ = some (.string y.data) := hext.cellAt (hcell 3 _ rfl)
        have Z := Lib.hid (And.intro hall hy)
        clear hall hcell hy
        cases hq : fits5B y
        all_goals
          go_wp2_with (go_at_call 23; refine (fits5 y _).mono ?_; rintro e w1 ⟨rfl, he1⟩; rw [hq])
        · refine bodyPost_ret (results_tmp rfl _ _ _) rfl ?_
          refine ⟨?_, by (repeat (first | with_reducible exact Ext.refl _ | with_reducible assumption | with_reducible apply Ext.alloc | with_reducible apply Ext.drew | with_reducible apply Ext.drewN | (with_reducible refine Ext.trans ?_ (by assumption)) | ((with_reducible refine Ext.set ?_ ?_ _); rotate_left; (focus (first | (simp; done) | omega | (simp; omega))))))⟩
          have hf : fits4B l = false := by unfold fits4B; rw [all_false_of Z.out.2 hq]; simp
          rw [hf]; rfl
        · go_roundw
          case rel => exact ⟨k + 1, by omega, by go_num, by rw [take_succ_of Z.out.2, List.all_append, Z.out.1]; simp [hq], by (repeat (first | with_reducible exact Ext.refl _ | with_reducible assumption | with_reducible apply Ext.alloc | with_reducible apply Ext.drew | with_reducible apply Ext.drewN | (with_reducible refine Ext.trans ?_ (by assumption)) | ((with_reducible refine Ext.set ?_ ?_ _); rotate_left; (focus (first | (simp; done) | omega | (simp; omega))))))⟩
          case measure => simp [intOf]; omega
      · have hkl : k = len := by omega
        subst hkl
        rw [List.take_of_length_le (by have := HL.out; omega)] at hall
        have Z := Lib.hid hall
        clear hall
        go_wp2
        refine bodyPost_ret (results_tmp rfl _ _ _) rfl ?_
        refine ⟨?_, hext⟩
        have hf : fits4B l = true := by unfold fits4B; rw [Z.out, HL.out]; simp; omega
        rw [hf]; rfl
  · have hf : fits4B l = false := by unfold fits4B; rw [hl]; simp; omega
    clear hl
    go_enter Try.func8, Try.ntmps8
    go_wp2
    refine bodyPost_ret (results_tmp rfl _ _ _) rfl ?_
    exact ⟨by rw [hf]; rfl, Ext.refl _⟩

theorem ent_one {l : List Ent} {u : Value} (h : u ∈ l.flatMap Ent.cells) : u.oneCell' = true := by
  simp only [List.mem_flatMap, Ent.cells, List.mem_cons, List.not_mem_nil, or_false] at h
  obtain ⟨e, _, rfl | rfl | rfl | rfl⟩ := h <;> rfl

/-- What shortEntries makes of an entry. -/
def shortE (e : Ent) : Ent := { e with data := if e.data.size ≤ 200 then e.data else e.data.extract 0 200, kind := e.kind.tmod 3 % 3 }

theorem infoEnt : (Try.prog.info? 66).map (fun i => (i.zero, i.size, i.bytes)) = some (some (.agg #[.int .u64 0, .int .u64 0, .int .i64 0, .string ByteArray.empty]), 4, 40) := by kernel_rfl

set_option maxRecDepth 100000 in
set_option maxHeartbeats 2000000 in
theorem shortEntries_any (a : Option Addr) (len cap : Nat) (l : List Ent) (w : World) (hrow : FlatRow w 4 Ent.cells a len cap l) (hok : ∀ x, x ∈ l → x.ok) (hlen : len ≤ 2147483647) :
    Calls Try.prog 9 #[.slice a len cap] w fun e w' => ∃ g c, e = .returned (.slice (some ⟨g, 0, none⟩) (min len 60) c) ∧ OwnRow w' w.heap.size g 66 4 Ent.cells c ((l.take 60).map shortE) ∧ Ext w w' := by
  obtain ⟨i0, hi, hz0, hz1, hz2⟩ := info_parts infoEnt
  have hl := hrow.length
  have X := Lib.hid hrow
  have HL := Lib.hid hl
  clear hrow hl
  rcases a with _ | ad
  · obtain ⟨rfl, rfl⟩ := X.out.nil rfl
    go_enter Try.func9, Try.ntmps9
    go_wp2_with fail
    refine wp_loop_rounds 1 ?_
    rw [rounds_succ]
    go_wp2
    refine bodyPost_ret (results_tmp rfl _ _ _) rfl ?_
    have hl0 : l = [] := List.eq_nil_of_length_eq_zero HL.out
    subst hl0
    exact ⟨_, _, rfl, ⟨Nat.le_refl _, Nat.le_refl _, Nat.zero_le _, #[], Blk.new _ _ _, rfl, fun i x hx => by simp at hx⟩, by (repeat (first | with_reducible exact Ext.refl _ | with_reducible assumption | with_reducible apply Ext.alloc | with_reducible apply Ext.drew | with_reducible apply Ext.drewN | (with_reducible refine Ext.trans ?_ (by assumption)) | ((with_reducible refine Ext.set ?_ ?_ _); rotate_left; (focus (first | (simp; done) | omega | (simp; omega))))))⟩
  · have hcap := X.out.le
    obtain ⟨m, hm, hmv⟩ : ∃ m, m = min len 60 ∧ m ≤ 60 := ⟨_, rfl, by omega⟩
    have hnl : ((l.take m).flatMap Ent.cells).length = m * 4 := by
      rw [flatMap_length Ent.cells Ent.cells_length, List.length_take, HL.out]; congr 1; omega
    have HN := Lib.hid hnl
    clear hnl
    have happ := fun (W : World) (hE : Ext w W) => (X.out.ext hE).news Ent.cells_length (by decide) m
    have HA := Lib.hid happ
    have HM := Lib.hid hm
    have HOK := Lib.hid hok
    clear happ hok
    by_cases hm6 : len ≤ 60
    · obtain rfl : m = len := by omega
      clear hm
      go_enter Try.func9, Try.ntmps9
      go_wp2_with (at_builtin; refine wpList_append_own _ rfl _ _ 22 rfl w.heap.size 66 i0 _ 4 40 Try.underlying22 hi hz0 hz1 hz2 rfl (by decide) _ 0 [] rfl (World.ownsRow_made w #[] 0 (Nat.le_refl _) (Nat.zero_le _) rfl) ad m _ _ rfl HN.out (HA.out _ (by (repeat (first | with_reducible exact Ext.refl _ | with_reducible assumption | with_reducible apply Ext.alloc | with_reducible apply Ext.drew | with_reducible apply Ext.drewN | (with_reducible refine Ext.trans ?_ (by assumption)) | ((with_reducible refine Ext.set ?_ ?_ _); rotate_left; (focus (first | (simp; done) | omega | (simp; omega)))))))) (fun u hu => ent_one hu) (by unfold maxLen; omega) (by omega) (by simp) ?_)
      intro v1 w1 hown1 hgrow1 hnil1
      obtain ⟨g, c1, hv1, hrow1⟩ := OwnRow.of_owns (n := 4) (l := l.take m) Ent.cells Ent.cells_length hnil1 hown1 (by rw [List.length_take, HL.out]; omega)
      subst hv1
      have E1 : Ext w w1 := Ext.grown ((Ext.refl w).alloc _) hgrow1 (fun k hk => by simp [Value.ownBlock] at hk; omega)
      have R1 := Lib.hid hrow1
      clear hown1 hgrow1 hnil1 hrow1
      go_wp2_with fail
      go_loopw [14] (fun i wr => ∃ (k : Nat), k ≤ m ∧ i = .int .i64 k ∧ OwnRow wr w.heap.size g 66 4 Ent.cells c1 (mixL shortE k (l.take m)) ∧ Ext w wr) (fun i _ => m - (intOf i).toNat)
      case atStart => exact ⟨0, Nat.zero_le _, rfl, by rw [mixL_zero]; exact R1.out, E1⟩
      case round =>
        obtain ⟨k, hk, rfl, hrow, hext⟩ := hrel
        by_cases hlt : k < m
        · obtain ⟨x, hx⟩ := get_of_lt (l.take m) (k := k) (by rw [List.length_take, HL.out]; omega)
          have hxk := mixL_get shortE hx
          have t1 : -3 < x.kind.tmod 3 := (tmod3 _).1
          have t2 : x.kind.tmod 3 < 3 := (tmod3 _).2
          have c2 : wr.cell? ⟨g, k * 4 + 2, none⟩ = some (.int .i64 x.kind) := hrow.cell hxk rfl
          have c3 : wr.cell? ⟨g, k * 4 + 3, none⟩ = some (.string x.data) := hrow.cell hxk rfl
          have f2 : wr.frozen? ⟨g, k * 4 + 2, none⟩ = false := hrow.free _
          have f3 : wr.frozen? ⟨g, k * 4 + 3, none⟩ = false := hrow.free _
          have Z := Lib.hid (And.intro hrow (And.intro hx hxk))
          clear hrow hx hxk
          by_cases hd : x.data.size ≤ 200
          · have hd' : ¬ (200 : Int) < (x.data.size : Int) := by omega
            go_wp2_with fail
            go_region
            go_wp2
            have h1 := Z.out.1.set Ent.cells_length Z.out.2.2 x 3 (.string x.data) (by decide) rfl
            have h2 := h1.set Ent.cells_length (x := x) (set_get Z.out.2.2 _) (shortE x) 2 (.int .i64 (x.kind.tmod 3 % 3)) (by decide) (by simp [Ent.cells, shortE, hd])
            rw [List.set_set, mixL_set _ Z.out.2.1] at h2
            go_roundw
            case rel => exact ⟨k + 1, by omega, by go_num, h2.drew, ((hext.set Z.out.1.base_le _).set Z.out.1.base_le _).drew⟩
            case measure => simp [intOf]; omega
          · have hd' : (200 : Int) < (x.data.size : Int) := by omega
            go_wp2_with fail
            go_region
            go_wp2
            have h1 := Z.out.1.set Ent.cells_length Z.out.2.2 { x with data := x.data.extract 0 200 } 3 (.string (x.data.extract 0 200)) (by decide) rfl
            have h2 := h1.set Ent.cells_length (x := { x with data := x.data.extract 0 200 }) (set_get Z.out.2.2 _) (shortE x) 2 (.int .i64 (x.kind.tmod 3 % 3)) (by decide) (by simp [Ent.cells, shortE, hd])
            rw [List.set_set, mixL_set _ Z.out.2.1] at h2
            go_roundw
            case rel => exact ⟨k + 1, by omega, by go_num, h2.drew, ((hext.set Z.out.1.base_le _).set Z.out.1.base_le _).drew⟩
            case measure => simp [intOf]; omega
        · have hkm : k = m := by omega
          subst hkm
          rw [mixL_full _ _ _ (by rw [List.length_take]; omega)] at hrow
          have Z := Lib.hid hrow
          clear hrow
          go_wp2
          refine bodyPost_ret (results_tmp rfl _ _ _) rfl ?_
          refine ⟨g, c1, ?_, ?_, hext⟩
          · rw [← HM.out]; rfl
          · have := Z.out
            rwa [List.take_of_length_le (by rw [HL.out]; omega)] at this ⊢
    · obtain rfl : m = 60 := by omega
      clear hm
      go_enter Try.func9, Try.ntmps9
      go_wp2_with (at_builtin; refine wpList_append_own _ rfl _ _ 22 rfl w.heap.size 66 i0 _ 4 40 Try.underlying22 hi hz0 hz1 hz2 rfl (by decide) _ 0 [] rfl (World.ownsRow_made w #[] 0 (Nat.le_refl _) (Nat.zero_le _) rfl) ad 60 _ _ rfl HN.out (HA.out _ (by (repeat (first | with_reducible exact Ext.refl _ | with_reducible assumption | with_reducible apply Ext.alloc | with_reducible apply Ext.drew | with_reducible apply Ext.drewN | (with_reducible refine Ext.trans ?_ (by assumption)) | ((with_reducible refine Ext.set ?_ ?_ _); rotate_left; (focus (first | (simp; done) | omega | (simp; omega)))))))) (fun u hu => ent_one hu) (by unfold maxLen; omega) (by omega) (by simp) ?_)
      intro v1 w1 hown1 hgrow1 hnil1
      obtain ⟨g, c1, hv1, hrow1⟩ := OwnRow.of_owns (n := 4) (l := l.take 60) Ent.cells Ent.cells_length hnil1 hown1 (by rw [List.length_take, HL.out]; omega)
      subst hv1
      have E1 : Ext w w1 := Ext.grown ((Ext.refl w).alloc _) hgrow1 (fun k hk => by simp [Value.ownBlock] at hk; omega)
      have R1 := Lib.hid hrow1
      clear hown1 hgrow1 hnil1 hrow1
      go_wp2_with fail
      go_loopw [14] (fun i wr => ∃ (k : Nat), k ≤ 60 ∧ i = .int .i64 k ∧ OwnRow wr w.heap.size g 66 4 Ent.cells c1 (mixL shortE k (l.take 60)) ∧ Ext w wr) (fun i _ => 60 - (intOf i).toNat)
      case atStart => exact ⟨0, Nat.zero_le _, rfl, by rw [mixL_zero]; exact R1.out, E1⟩
      case round =>
        obtain ⟨k, hk, rfl, hrow, hext⟩ := hrel
        by_cases hlt : k < 60
        · obtain ⟨x, hx⟩ := get_of_lt (l.take 60) (k := k) (by rw [List.length_take, HL.out]; omega)
          have hxk := mixL_get shortE hx
          have t1 : -3 < x.kind.tmod 3 := (tmod3 _).1
          have t2 : x.kind.tmod 3 < 3 := (tmod3 _).2
          have c2 : wr.cell? ⟨g, k * 4 + 2, none⟩ = some (.int .i64 x.kind) := hrow.cell hxk rfl
          have c3 : wr.cell? ⟨g, k * 4 + 3, none⟩ = some (.string x.data) := hrow.cell hxk rfl
          have f2 : wr.frozen? ⟨g, k * 4 + 2, none⟩ = false := hrow.free _
          have f3 : wr.frozen? ⟨g, k * 4 + 3, none⟩ = false := hrow.free _
          have Z := Lib.hid (And.intro hrow (And.intro hx hxk))
          clear hrow hx hxk
          by_cases hd : x.data.size ≤ 200
          · have hd' : ¬ (200 : Int) < (x.data.size : Int) := by omega
            go_wp2_with fail
            go_region
            go_wp2
            have h1 := Z.out.1.set Ent.cells_length Z.out.2.2 x 3 (.string x.data) (by decide) rfl
            have h2 := h1.set Ent.cells_length (x := x) (set_get Z.out.2.2 _) (shortE x) 2 (.int .i64 (x.kind.tmod 3 % 3)) (by decide) (by simp [Ent.cells, shortE, hd])
            rw [List.set_set, mixL_set _ Z.out.2.1] at h2
            go_roundw
            case rel => exact ⟨k + 1, by omega, by go_num, h2.drew, ((hext.set Z.out.1.base_le _).set Z.out.1.base_le _).drew⟩
            case measure => simp [intOf]; omega
          · have hd' : (200 : Int) < (x.data.size : Int) := by omega
            go_wp2_with fail
            go_region
            go_wp2
            have h1 := Z.out.1.set Ent.cells_length Z.out.2.2 { x with data := x.data.extract 0 200 } 3 (.string (x.data.extract 0 200)) (by decide) rfl
            have h2 := h1.set Ent.cells_length (x := { x with data := x.data.extract 0 200 }) (set_get Z.out.2.2 _) (shortE x) 2 (.int .i64 (x.kind.tmod 3 % 3)) (by decide) (by simp [Ent.cells, shortE, hd])
            rw [List.set_set, mixL_set _ Z.out.2.1] at h2
            go_roundw
            case rel => exact ⟨k + 1, by omega, by go_num, h2.drew, ((hext.set Z.out.1.base_le _).set Z.out.1.base_le _).drew⟩
            case measure => simp [intOf]; omega
        · obtain rfl : k = 60 := by omega
          rw [mixL_full _ _ _ (by rw [List.length_take]; omega)] at hrow
          have Z := Lib.hid hrow
          clear hrow
          go_wp2
          refine bodyPost_ret (results_tmp rfl _ _ _) rfl ?_
          refine ⟨g, c1, ?_, ?_, hext⟩
          · rw [← HM.out]; rfl
          · exact Z.out
end Go.Proofs.Ythfdhamencefiaa
