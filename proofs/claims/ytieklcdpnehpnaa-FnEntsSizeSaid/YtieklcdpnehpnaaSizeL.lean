/-
  FnEntsSize's own walks.
-/
import Derived.Test.YtieklcdpnehpnaaRows
import Derived.Test.YtieklcdpnehpnaaBase
import Derived.Test.YtieklcdpnehpnaaSees
import Derived.Test.YtieklcdpnehpnaaEnt
import Derived.Test.YtieklcdpnehpnaaEntP
import Derived.Test.YtieklcdpnehpnaaSize
import Derived.Test.YtieklcdpnehpnaaOpen
import Derived.Deep.QuietTactic
import Derived.BigQuiet
import Derived.IntWalk
set_option linter.unusedVariables false
set_option linter.unusedSimpArgs false
namespace Go.Proofs.Ytieklcdpnehpnaa
open Go.RowKit

def sizeV (e : Ent) : Value := .int .u64 (sizeE e)
theorem infoU64 : (Try.prog.info? 23).map (fun i => (i.zero, i.size, i.bytes)) = some (some (.int .u64 0), 1, 8) := by kernel_rfl

set_option maxRecDepth 100000 in
set_option maxHeartbeats 1000000 in
theorem sizesOf_any (a : Option Addr) (len cap : Nat) (l : List Ent) (w : World) (hrow : FlatRow w 4 Ent.cells a len cap l) (hf : ∀ e, e ∈ l → e.fit) (hlen : len ≤ 2147483647) :
    Calls Try.prog 16 #[.slice a len cap] w fun r w' => ∃ a' c', r = .returned (.slice a' len c') ∧ FlatT w' 23 1 one1 a' len c' (l.map sizeV) ∧ Ext w w' := by
  obtain ⟨i0, hi, hz0, hz1, hz2⟩ := info_parts infoU64
  have hcap := hrow.le
  have hmax := hrow.max
  have X := Lib.hid hrow
  have HF := Lib.hid hf
  clear hrow hf
  go_enter Try.func16, Try.ntmps16
  go_wp2
  go_loopw [3, 7] (fun v i wr => ∃ (k : Nat), k ≤ len ∧ i = .int .i64 k ∧ wr.ownsRow w.heap.size 23 1 v k ((l.take k).map sizeV) ∧ Ext w wr) (fun _ i _ => len - (intOf i).toNat)
  case atStart => exact ⟨0, Nat.zero_le _, rfl, World.ownsRow_nil _ _ _ _, Ext.refl _⟩
  case round =>
    obtain ⟨k, hk, rfl, hown, hext⟩ := hrel
    by_cases hlt : k < len
    · obtain ⟨y, b, off, hy, rfl, hcell⟩ := X.out.get hlt
      have hpart := X.out.part k (k + 1) (by omega) (by omega)
      have h1 : k + 1 - k = 1 := by omega
      have h2 : (l.drop k).take 1 = [y] := by
        rw [List.take_one, List.head?_drop, hy]; rfl
      rw [h1, h2] at hpart
      have hyf : ∀ e, e ∈ [y] → e.fit := fun e he => by simp at he; subst he; exact HF.out e (List.mem_of_getElem? hy)
      have hs : sumS [y] = sizeE y := by simp [sumS]
      obtain ⟨q, hq⟩ : ∃ q, q = sizeE y := ⟨_, rfl⟩
      rw [← hq] at hs
      have Y := Lib.hid (And.intro hpart (And.intro hyf (And.intro hs (And.intro hq hy))))
      have hk1 : ((k + 1 : Nat) : Int) ≤ len := by omega
      clear hpart hyf hs hq hy h1 h2 hcell
      go_wp2_with (first | (go_at_call 17; (with_reducible refine (implEntsSize _ _ _ [y] _ (Y.out.1.ext (by (repeat (first | with_reducible exact Ext.refl _ | with_reducible assumption | with_reducible apply Ext.alloc | with_reducible apply Ext.drew | with_reducible apply Ext.drewN | (with_reducible refine Ext.trans ?_ (by assumption)) | ((with_reducible refine Ext.set ?_ ?_ _); rotate_left; (focus (first | (simp; done) | omega | (simp; omega)))))))) Y.out.2.1 (by omega)).mono ?_); rw [Y.out.2.2.1]; rintro e w1 ⟨rfl, he1⟩; have hown1 := hown.kept (row := none) (World.grownBy_of_ext he1) (by cases hv : u3.ownBlock <;> simp)) | (at_builtin; refine wpList_append_own _ rfl _ _ 39 rfl w.heap.size 23 i0 (.int .u64 0) 1 8 Try.underlying39 hi hz0 hz1 hz2 rfl (by decide) _ _ _ rfl (hown1.alloc _) ⟨w1.heap.size, 0, none⟩ 1 1 [.int .u64 q] rfl rfl (cell_one_new _ _ _) (by simp [Value.oneCell']) (by unfold maxLen; omega) (by omega) (by simp; have := hext.size; have := he1.size; (try simp at this); omega) ?_; intro v' w2 hown2 hgrow2 _))
      have E2 : Ext w w2 := Ext.grown ((hext.trans he1).alloc _) hgrow2 (fun j hj => (hown1.lt j hj).1)
      go_roundw
      case rel => exact ⟨k + 1, by omega, by go_num, by rw [take_succ_of Y.out.2.2.2.2, List.map_append]; rw [Y.out.2.2.2.1] at hown2; exact hown2, E2⟩
      case measure => simp [intOf]; omega
    · obtain rfl : k = len := by omega
      rw [List.take_of_length_le (by have := X.out.length; omega)] at hown
      obtain ⟨a', c', rfl, hf⟩ := flat_of_owns hown
      have Z := Lib.hid hf
      clear hown hf
      go_wp2
      refine bodyPost_ret (results_tmp rfl _ _ _) rfl ?_
      exact ⟨a', c', rfl, Z.out, hext⟩

theorem shortE_fit {e : Ent} (h : e.ok) : (shortE e).fit := by
  obtain ⟨h1, h2, h3, h4⟩ := h
  refine ⟨?_, h1, h2, ?_⟩
  · simp only [shortE]; omega
  · simp only [shortE]
    split
    · omega
    · rw [ByteArray.size_extract]; omega
theorem size_le_sizeE {e : Ent} : (e.data.size : Int) ≤ sizeE e := by
  have hk0 := varintI_pos e.kind
  have ht0 := varintI_pos e.term
  have hx0 := varintI_pos e.index
  have hs0 := varintI_pos e.data.size
  unfold sizeE
  split <;> split <;> omega

set_option maxRecDepth 100000 in
set_option maxHeartbeats 2000000 in
theorem fnEntsSizeV (v0 : Value) (l : List Ent) {w : World} (h0 : EntsV w v0 l) :
    Calls Try.prog 6 #[v0] w fun e w' => e = .returned (.bool true) ∧ Ext w w' := by
  obtain ⟨a, len, cap, rfl, hrow, hok⟩ := h0
  have hl := hrow.length
  by_cases hb : fits4B l = true
  · have hlen : len ≤ 2147483647 := by
      unfold fits4B at hb
      simp at hb
      omega
    obtain ⟨L, hL⟩ : ∃ L, L = (l.take 60).map shortE := ⟨_, rfl⟩
    have hLf : ∀ e, e ∈ L → e.fit := by
      intro e he
      rw [hL, List.mem_map] at he
      obtain ⟨y, hy, rfl⟩ := he
      exact shortE_fit (hok y (List.mem_of_mem_take hy))
    obtain ⟨m, hm, hmv⟩ : ∃ m, m = min len 60 ∧ m ≤ 60 := ⟨_, rfl, by omega⟩
    have hLm : L.length = m := by rw [hL, List.length_map, List.length_take, hl, hm]; omega
    have hS : ∀ W, Ext w W → Calls Try.prog 15 #[.slice a len cap] W fun e w' => ∃ g c, e = .returned (.slice (some ⟨g, 0, none⟩) m c) ∧ FlatRow w' 4 Ent.cells (some ⟨g, 0, none⟩) m c L ∧ Ext W w' := fun W hW =>
      (shortEntries_any a len cap l W (hrow.ext hW) hok hlen).mono fun e w' ⟨g, c, he, hr, hx⟩ => ⟨g, c, by rw [he, hm], by have := hr.flat; rw [← hL, hLm] at this; exact this, hx⟩
    have X := Lib.hid hrow
    have HB := Lib.hid hb
    have HS := Lib.hid hS
    have HF := Lib.hid hLf
    have HM := Lib.hid hLm
    clear hrow hl hb hok hm hS hLf hLm hL
    go_enter Try.func6, Try.ntmps6
    go_wp2_with (first | (go_at_call 12; (with_reducible refine (fits4 a len cap l _ (X.out.ext (by (repeat (first | with_reducible exact Ext.refl _ | with_reducible assumption | with_reducible apply Ext.alloc | with_reducible apply Ext.drew | with_reducible apply Ext.drewN | (with_reducible refine Ext.trans ?_ (by assumption)) | ((with_reducible refine Ext.set ?_ ?_ _); rotate_left; (focus (first | (simp; done) | omega | (simp; omega))))))))).mono ?_); rintro e w1 ⟨rfl, he1⟩; rw [HB.out]; obtain ⟨rc1, rf1⟩ := he1.reads; (try have rz1 : w.heap.size < w1.heap.size := (by have := he1.size; (try simp at this); omega)); (try have rn1 : ¬ w.heap.size = w1.heap.size := (by omega)); (try have rm1 : ¬ w1.heap.size = w.heap.size := (by omega)); (try have ry1 : w.heap.size + 1 < w1.heap.size := (by have := he1.size; (try simp at this); omega)); (try have rx1 : w.heap.size + 1 + 1 < w1.heap.size := (by have := he1.size; (try simp at this); omega))) | (go_at_call 15; (with_reducible refine (HS.out _ (by (repeat (first | with_reducible exact Ext.refl _ | with_reducible assumption | with_reducible apply Ext.alloc | with_reducible apply Ext.drew | with_reducible apply Ext.drewN | (with_reducible refine Ext.trans ?_ (by assumption)) | ((with_reducible refine Ext.set ?_ ?_ _); rotate_left; (focus (first | (simp; done) | omega | (simp; omega)))))))).mono ?_); rintro e w2 ⟨g, c2, rfl, hr2, he2⟩; have H2 := Lib.hid hr2; clear hr2; obtain ⟨rc2, rf2⟩ := he2.reads; (try have rz2 : w.heap.size < w2.heap.size := (by have := he2.size; (try simp at this); omega)); (try have rn2 : ¬ w.heap.size = w2.heap.size := (by omega)); (try have rm2 : ¬ w2.heap.size = w.heap.size := (by omega)); (try have ry2 : w.heap.size + 1 < w2.heap.size := (by have := he2.size; (try simp at this); omega)); (try have rx2 : w.heap.size + 1 + 1 < w2.heap.size := (by have := he2.size; (try simp at this); omega))) | (go_at_call 16; (with_reducible refine (sizesOf_any _ _ _ L _ (H2.out.ext (by (repeat (first | with_reducible exact Ext.refl _ | with_reducible assumption | with_reducible apply Ext.alloc | with_reducible apply Ext.drew | with_reducible apply Ext.drewN | (with_reducible refine Ext.trans ?_ (by assumption)) | ((with_reducible refine Ext.set ?_ ?_ _); rotate_left; (focus (first | (simp; done) | omega | (simp; omega)))))))) HF.out (by omega)).mono ?_); rintro e w3 ⟨a3, c3, rfl, hr3, he3⟩; have H3 := Lib.hid hr3; clear hr3; obtain ⟨rc3, rf3⟩ := he3.reads; (try have rz3 : w.heap.size < w3.heap.size := (by have := he3.size; (try simp at this); omega)); (try have rn3 : ¬ w.heap.size = w3.heap.size := (by omega)); (try have rm3 : ¬ w3.heap.size = w.heap.size := (by omega)); (try have ry3 : w.heap.size + 1 < w3.heap.size := (by have := he3.size; (try simp at this); omega)); (try have rx3 : w.heap.size + 1 + 1 < w3.heap.size := (by have := he3.size; (try simp at this); omega))))
    go_loopw [5, 16] (fun s i wr => ∃ (k : Nat) (z : Int), k ≤ m ∧ i = .int .i64 k ∧ s = .int .u64 z ∧ z = sumS (L.take k) ∧ Ext w3 wr) (fun _ i _ => m - (intOf i).toNat)
    case atStart => exact ⟨0, 0, Nat.zero_le _, rfl, rfl, rfl, Ext.refl _⟩
    case round =>
      obtain ⟨k, z, hk, rfl, rfl, hz, hext⟩ := hrel
      by_cases hlt : k < m
      · obtain ⟨y, b, off, hy, hb, hcell⟩ := H2.out.get hlt
        simp at hb
        obtain ⟨rfl, rfl⟩ := hb
        obtain ⟨y3, b3, off3, hy3, rfl, hcell3⟩ := H3.out.flat.get hlt
        rw [List.getElem?_map, hy] at hy3
        simp at hy3
        subst hy3
        have hyf := HF.out y (List.mem_of_getElem? hy)
        have hz1 := sumS_le (L.take k) (fun e he => HF.out e (List.mem_of_mem_take he))
        rw [← hz, List.length_take, HM.out, Nat.min_eq_left hk] at hz1
        have hs := sizeE_le hyf
        have hd := size_le_sizeE (e := y)
        have hdf := hyf.2.2.2
        obtain ⟨q, hq⟩ : ∃ q, q = sizeE y := ⟨_, rfl⟩
        have d0 : wr.cell? ⟨b3, off3 + k, none⟩ = some (.int .u64 q) := by
          rw [hq]
          have := hcell3 0 _ rfl
          rw [Nat.mul_one, Nat.add_zero] at this
          exact hext.cellAt this
        have d1 : wr.cell? ⟨g, k * 4 + 3, none⟩ = some (.string y.data) := by
          have := hcell 3 _ rfl
          rw [Nat.zero_add] at this
          exact (he3.trans hext).cellAt this
        rw [← hq] at hs hd
        have Z := Lib.hid (And.intro hz (And.intro hy hq))
        have hn1 : (k : Int) < m := by omega
        clear hz hy hcell hcell3 hyf hq
        obtain ⟨hs0, hs1⟩ := hs
        obtain ⟨hz0, hz1⟩ := hz1
        have hdq : decide (q < (y.data.size : Int)) = false := by simp; omega
        have hdw : IntKind.u64.wrap (y.data.size : Int) = y.data.size := IntWalk.u64_in _ (by omega)
        go_wp2_with fail
        go_quiet (fail)
        go_wp2
        go_roundw
        case rel => exact ⟨k + 1, z + q, by omega, by go_num, by go_num, by rw [take_succ_of Z.out.2.1, sumS_snoc, ← Z.out.2.2, ← Z.out.1], by (repeat (first | with_reducible exact Ext.refl _ | with_reducible assumption | with_reducible apply Ext.alloc | with_reducible apply Ext.drew | with_reducible apply Ext.drewN | (with_reducible refine Ext.trans ?_ (by assumption)) | ((with_reducible refine Ext.set ?_ ?_ _); rotate_left; (focus (first | (simp; done) | omega | (simp; omega))))))⟩
        case measure => simp [intOf]; omega
      · obtain rfl : k = m := by omega
        rw [List.take_of_length_le (by have := HM.out; omega)] at hz
        subst hz
        go_wp2_with (go_at_call 17; (with_reducible refine (implEntsSize _ _ _ L _ (H2.out.ext (by (repeat (first | with_reducible exact Ext.refl _ | with_reducible assumption | with_reducible apply Ext.alloc | with_reducible apply Ext.drew | with_reducible apply Ext.drewN | (with_reducible refine Ext.trans ?_ (by assumption)) | ((with_reducible refine Ext.set ?_ ?_ _); rotate_left; (focus (first | (simp; done) | omega | (simp; omega)))))))) HF.out (by omega)).mono ?_); rintro e w4 ⟨rfl, he4⟩)
        refine bodyPost_ret (results_tmp rfl _ _ _) rfl ?_
        exact ⟨by simp, by (repeat (first | with_reducible exact Ext.refl _ | with_reducible assumption | with_reducible apply Ext.alloc | with_reducible apply Ext.drew | with_reducible apply Ext.drewN | (with_reducible refine Ext.trans ?_ (by assumption)) | ((with_reducible refine Ext.set ?_ ?_ _); rotate_left; (focus (first | (simp; done) | omega | (simp; omega))))))⟩
  · have X := Lib.hid hrow
    clear hrow hl
    have HB := Lib.hid (Bool.eq_false_iff.2 hb)
    clear hb
    go_enter Try.func6, Try.ntmps6
    go_wp2_with (go_at_call 12; (with_reducible refine (fits4 a len cap l _ (X.out.ext (by (repeat (first | with_reducible exact Ext.refl _ | with_reducible assumption | with_reducible apply Ext.alloc | with_reducible apply Ext.drew | with_reducible apply Ext.drewN | (with_reducible refine Ext.trans ?_ (by assumption)) | ((with_reducible refine Ext.set ?_ ?_ _); rotate_left; (focus (first | (simp; done) | omega | (simp; omega))))))))).mono ?_); rintro e w1 ⟨rfl, he1⟩; rw [HB.out]; obtain ⟨rc1, rf1⟩ := he1.reads; (try have rz1 : w.heap.size < w1.heap.size := (by have := he1.size; (try simp at this); omega)); (try have rn1 : ¬ w.heap.size = w1.heap.size := (by omega)); (try have rm1 : ¬ w1.heap.size = w.heap.size := (by omega)); (try have ry1 : w.heap.size + 1 < w1.heap.size := (by have := he1.size; (try simp at this); omega)); (try have rx1 : w.heap.size + 1 + 1 < w1.heap.size := (by have := he1.size; (try simp at this); omega)))
    go_ret
    exact ⟨rfl, by (repeat (first | with_reducible exact Ext.refl _ | with_reducible assumption | with_reducible apply Ext.alloc | with_reducible apply Ext.drew | with_reducible apply Ext.drewN | (with_reducible refine Ext.trans ?_ (by assumption)) | ((with_reducible refine Ext.set ?_ ?_ _); rotate_left; (focus (first | (simp; done) | omega | (simp; omega))))))⟩
end Go.Proofs.Ytieklcdpnehpnaa
