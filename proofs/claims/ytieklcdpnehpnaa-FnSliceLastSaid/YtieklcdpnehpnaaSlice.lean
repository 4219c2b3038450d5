/-
  The last ID of a slice of a log: FnSliceLast's walks.
-/
import Derived.Test.YtieklcdpnehpnaaRows
import Derived.Test.YtieklcdpnehpnaaBase
import Derived.Test.YtieklcdpnehpnaaSees
import Derived.Test.YtieklcdpnehpnaaBytes
import Derived.Test.YtieklcdpnehpnaaEnt
import Derived.Test.YtieklcdpnehpnaaRow
import Derived.Test.YtieklcdpnehpnaaEntP
import Derived.Deep.RegionHeld3
import Derived.Deep.QuietTactic
import Derived.BigQuiet
set_option linter.unusedVariables false
set_option linter.unusedSimpArgs false
namespace Go.Proofs.Ytieklcdpnehpnaa
open Go.RowKit

set_option maxHeartbeats 400000 in
theorem zzSlice (t pt pi : Int) (a : Option Addr) (n c : Nat) (w : World) :
    Calls Try.prog 29 #[.int .u64 t, .int .u64 pt, .int .u64 pi, .slice a n c] w fun r w' => r = .returned (.agg #[.int .u64 t, .int .u64 pt, .int .u64 pi, .slice a n c]) ∧ Ext w w' := by
  go_enter Try.func29, Try.ntmps29
  go_wp2
  refine bodyPost_ret (results_cell_row rfl _ _ _ _ _ _ _ rfl (heap_alloc_new _ _) Try.underlying61 rfl (by kernel_rfl)) rfl ?_
  exact ⟨rfl, by (repeat (first | with_reducible exact Ext.refl _ | with_reducible assumption | with_reducible apply Ext.alloc | with_reducible apply Ext.drew | with_reducible apply Ext.drewN | (with_reducible refine Ext.trans ?_ (by assumption)) | ((with_reducible refine Ext.set ?_ ?_ _); rotate_left; (focus (first | (simp; done) | omega | (simp; omega))))))⟩

set_option maxHeartbeats 400000 in
theorem zzID_any (t i : Int) (w : World) :
    Calls Try.prog 46 #[.agg #[.int .u64 t, .int .u64 i]] w fun r w' => r = .returned (.tuple #[.int .u64 t, .int .u64 i]) ∧ Ext w w' := by
  go_enter Try.func46, Try.ntmps46
  go_wp2_with fail
  go_quiet (fail)
  go_wp2
  go_ret2
  exact ⟨rfl, by (repeat (first | with_reducible exact Ext.refl _ | with_reducible assumption | with_reducible apply Ext.alloc | with_reducible apply Ext.drew | with_reducible apply Ext.drewN | (with_reducible refine Ext.trans ?_ (by assumption)) | ((with_reducible refine Ext.set ?_ ?_ _); rotate_left; (focus (first | (simp; done) | omega | (simp; omega))))))⟩

/-- the last ID of entries, or the one ahead -/
def lastID (pt pi : Int) (l : List Ent) : Int × Int := match l.getLast? with | some e => (e.term, e.index) | none => (pt, pi)

set_option maxHeartbeats 1000000 in
theorem lastEntryID (t pt pi : Int) (a : Option Addr) (n c : Nat) (l : List Ent) (w : World) (h : EntsP w a n c l) (hn : n ≤ 2147483647) :
    Calls Try.prog 47 #[.agg #[.int .u64 t, .int .u64 pt, .int .u64 pi, .slice a n c]] w fun r w' => r = .returned (.agg #[.int .u64 (lastID pt pi l).1, .int .u64 (lastID pt pi l).2]) ∧ Ext w w' := by
  have hl := h.length
  by_cases h0 : n = 0
  · subst h0
    obtain rfl := List.eq_nil_of_length_eq_zero hl
    clear hl h
    go_enter Try.func47, Try.ntmps47
    go_wp2
    refine bodyPost_ret (ret_blk rfl (b := w.heap.size + 1) (cs := #[.int .u64 pt, .int .u64 pi]) (t := 58) (by simp [blk_alloc]) (by rfl) Try.underlying58 rfl (by kernel_rfl)) rfl ?_
    exact ⟨rfl, by (repeat (first | with_reducible exact Ext.refl _ | with_reducible assumption | with_reducible apply Ext.alloc | with_reducible apply Ext.drew | with_reducible apply Ext.drewN | (with_reducible refine Ext.trans ?_ (by assumption)) | ((with_reducible refine Ext.set ?_ ?_ _); rotate_left; (focus (first | (simp; done) | omega | (simp; omega))))))⟩
  · obtain ⟨y, b, off, d, hy, rfl, hcell, hp⟩ := h.get (i := n - 1) (by omega)
    have hlast : l.getLast? = some y := by rw [List.getLast?_eq_getElem?, hl]; exact hy
    have hq : lastID pt pi l = (y.term, y.index) := by unfold lastID; rw [hlast]
    rw [hq]
    have X := Lib.hid hp
    have h1 : ((n : Int) != 0) = true := by rw [bne_iff_ne]; omega
    have h2 : 1 ≤ n := by omega
    have hlt := World.block_lt_of_cell? w _ hcell
    simp only at hlt
    clear hlast hq hp hy hl h
    go_enter Try.func47, Try.ntmps47
    go_wp2_with (go_at_call 60; (with_reducible refine (entID d y _ (X.out.ext (by (repeat (first | with_reducible exact Ext.refl _ | with_reducible assumption | with_reducible apply Ext.alloc | with_reducible apply Ext.drew | with_reducible apply Ext.drewN | (with_reducible refine Ext.trans ?_ (by assumption)) | ((with_reducible refine Ext.set ?_ ?_ _); rotate_left; (focus (first | (simp; done) | omega | (simp; omega))))))))).mono ?_); rintro r w1 ⟨rfl, he1⟩; obtain ⟨rc1, rf1⟩ := he1.reads; have rz1 : w.heap.size < w1.heap.size := (by have := he1.size; (try simp at this); omega); have rn1 : ¬ w.heap.size = w1.heap.size := (by omega); have rm1 : ¬ w1.heap.size = w.heap.size := (by omega); (try have ry1 : w.heap.size + 1 < w1.heap.size := (by have := he1.size; (try simp at this); omega)); (try have rx1 : w.heap.size + 1 + 1 < w1.heap.size := (by have := he1.size; (try simp at this); omega)))
    have hb : Blk w1 (w.heap.size + 1) #[.int .u64 0, .int .u64 0] 58 := Blk.ext (by simp [blk_alloc]) he1
    refine bodyPost_ret (ret_blk rfl ((hb.set 0 (.int .u64 y.term)).set 1 (.int .u64 y.index)) (by rfl) Try.underlying58 rfl (by kernel_rfl)) rfl ?_
    exact ⟨rfl, by (repeat (first | with_reducible exact Ext.refl _ | with_reducible assumption | with_reducible apply Ext.alloc | with_reducible apply Ext.drew | with_reducible apply Ext.drewN | (with_reducible refine Ext.trans ?_ (by assumption)) | ((with_reducible refine Ext.set ?_ ?_ _); rotate_left; (focus (first | (simp; done) | omega | (simp; omega))))))⟩

set_option maxHeartbeats 400000 in
theorem lastIndex (t pt pi : Int) (a : Option Addr) (n c : Nat) (w : World) (hn : n ≤ 2147483647) (hp : 0 ≤ pi ∧ pi ≤ 18446744071562067000) :
    Calls Try.prog 48 #[.agg #[.int .u64 t, .int .u64 pt, .int .u64 pi, .slice a n c]] w fun r w' => r = .returned (.int .u64 (pi + n)) ∧ Ext w w' := by
  go_enter Try.func48, Try.ntmps48
  go_wp2
  go_ret
  exact ⟨rfl, by (repeat (first | with_reducible exact Ext.refl _ | with_reducible assumption | with_reducible apply Ext.alloc | with_reducible apply Ext.drew | with_reducible apply Ext.drewN | (with_reducible refine Ext.trans ?_ (by assumption)) | ((with_reducible refine Ext.set ?_ ?_ _); rotate_left; (focus (first | (simp; done) | omega | (simp; omega))))))⟩

set_option maxHeartbeats 400000 in
theorem zzLastIndex (t pt pi : Int) (a : Option Addr) (n c : Nat) (w : World) (hn : n ≤ 2147483647) (hp : 0 ≤ pi ∧ pi ≤ 18446744071562067000) :
    Calls Try.prog 32 #[.agg #[.int .u64 t, .int .u64 pt, .int .u64 pi, .slice a n c]] w fun r w' => r = .returned (.int .u64 (pi + n)) ∧ Ext w w' := by
  go_enter Try.func32, Try.ntmps32
  go_wp2_with (go_at_call 48; (with_reducible refine (lastIndex _ _ _ _ _ _ _ hn hp).mono ?_); rintro r w1 ⟨rfl, he1⟩)
  go_ret
  exact ⟨rfl, by (repeat (first | with_reducible exact Ext.refl _ | with_reducible assumption | with_reducible apply Ext.alloc | with_reducible apply Ext.drew | with_reducible apply Ext.drewN | (with_reducible refine Ext.trans ?_ (by assumption)) | ((with_reducible refine Ext.set ?_ ?_ _); rotate_left; (focus (first | (simp; done) | omega | (simp; omega))))))⟩

set_option maxHeartbeats 400000 in
theorem zzLastID (t pt pi : Int) (a : Option Addr) (n c : Nat) (l : List Ent) (w : World) (h : EntsP w a n c l) (hn : n ≤ 2147483647) :
    Calls Try.prog 31 #[.agg #[.int .u64 t, .int .u64 pt, .int .u64 pi, .slice a n c]] w fun r w' => r = .returned (.tuple #[.int .u64 (lastID pt pi l).1, .int .u64 (lastID pt pi l).2]) ∧ Ext w w' := by
  have X := Lib.hid h
  clear h
  go_enter Try.func31, Try.ntmps31
  go_wp2_with (first | (go_at_call 47; (with_reducible refine (lastEntryID t pt pi a n c l _ (X.out.ext (by (repeat (first | with_reducible exact Ext.refl _ | with_reducible assumption | with_reducible apply Ext.alloc | with_reducible apply Ext.drew | with_reducible apply Ext.drewN | (with_reducible refine Ext.trans ?_ (by assumption)) | ((with_reducible refine Ext.set ?_ ?_ _); rotate_left; (focus (first | (simp; done) | omega | (simp; omega)))))))) hn).mono ?_); rintro r w1 ⟨rfl, he1⟩) | (go_at_call 46; (with_reducible refine (zzID_any _ _ _).mono ?_); rintro r w2 ⟨rfl, he2⟩))
  go_ret2
  exact ⟨rfl, by (repeat (first | with_reducible exact Ext.refl _ | with_reducible assumption | with_reducible apply Ext.alloc | with_reducible apply Ext.drew | with_reducible apply Ext.drewN | (with_reducible refine Ext.trans ?_ (by assumption)) | ((with_reducible refine Ext.set ?_ ?_ _); rotate_left; (focus (first | (simp; done) | omega | (simp; omega))))))⟩

set_option maxRecDepth 100000 in
set_option maxHeartbeats 1000000 in
theorem sliceLast (pt pi : Int) (a : Option Addr) (len cap : Nat) (l : List Ent) (w : World) (hrow : FlatRow w 4 Ent.cells a len cap l) (hkind : ∀ e, e ∈ l → 0 ≤ e.kind ∧ e.kind ≤ 2) (hlen : len ≤ 2147483647) (hp : 0 ≤ pi ∧ pi ≤ 18446744071562067000) :
    Calls Try.prog 14 #[.agg #[.int .u64 pt, .int .u64 pi], .slice a len cap] w fun r w' => r = .returned (.tuple #[.agg #[.int .u64 (lastID pt pi l).1, .int .u64 (lastID pt pi l).2], .int .u64 (pi + len)]) ∧ Ext w w' := by
  have X := Lib.hid hrow
  have HK := Lib.hid hkind
  clear hrow hkind
  obtain ⟨q, hq⟩ : ∃ q, lastID pt pi l = q := ⟨_, rfl⟩
  go_enter Try.func14, Try.ntmps14
  go_wp2_with fail
  go_region_held3 (fun w' => w'.cell? ⟨w.heap.size, 0, none⟩ = some (.int .u64 pt) ∧ w'.cell? ⟨w.heap.size, 1, none⟩ = some (.int .u64 pi)) (go_keep)
    (first | (go_at_call 30; refine (entriesTo_ents a len cap l _ (X.out.ext (by (repeat (first | with_reducible exact Ext.refl _ | with_reducible assumption | with_reducible apply Ext.alloc | with_reducible apply Ext.drew | with_reducible apply Ext.drewN | (with_reducible refine Ext.trans ?_ (by assumption)) | ((with_reducible refine Ext.set ?_ ?_ _); rotate_left; (focus (first | (simp; done) | omega | (simp; omega)))))))) HK.out hlen).mono ?_; rintro e w1 ⟨a1, c1, rfl, hp1, he1⟩; have H1 := Lib.hid hp1; clear hp1; obtain ⟨rc1, rf1⟩ := he1.reads; have rz1 : w.heap.size < w1.heap.size := (by have := he1.size; (try simp at this); omega); have rn1 : ¬ w.heap.size = w1.heap.size := (by omega); have rm1 : ¬ w1.heap.size = w.heap.size := (by omega); (try have ry1 : w.heap.size + 1 < w1.heap.size := (by have := he1.size; (try simp at this); omega)); (try have rx1 : w.heap.size + 1 + 1 < w1.heap.size := (by have := he1.size; (try simp at this); omega))) | (go_at_call 29; (with_reducible refine (zzSlice _ _ _ _ _ _ _).mono ?_); rintro e w2 ⟨rfl, he2⟩; obtain ⟨rc2, rf2⟩ := he2.reads; have rz2 : w.heap.size < w2.heap.size := (by have := he2.size; (try simp at this); omega); have rn2 : ¬ w.heap.size = w2.heap.size := (by omega); have rm2 : ¬ w2.heap.size = w.heap.size := (by omega); (try have ry2 : w.heap.size + 1 < w2.heap.size := (by have := he2.size; (try simp at this); omega)); (try have rx2 : w.heap.size + 1 + 1 < w2.heap.size := (by have := he2.size; (try simp at this); omega)); (try have sz2_1 : w1.heap.size < w2.heap.size := (by first | (have := he2.size; (try simp at this); omega) | (have := he2.size; (try simp at this); omega))); (try have sn2_1 : ¬ w1.heap.size = w2.heap.size := (by omega)); (try have sm2_1 : ¬ w2.heap.size = w1.heap.size := (by omega)); (try have sy2_1 : w1.heap.size + 1 < w2.heap.size := (by have := he2.size; (try simp at this); omega))))
  all_goals
    go_wp2_with (first | (go_at_call 31; (with_reducible refine (zzLastID 0 pt pi a1 len c1 l _ (H1.out.keep ?_) hlen).mono ?_); (focus ((repeat (first | with_reducible exact Keep.refl _ _ | with_reducible assumption | ((with_reducible refine Ext.keep ?_ _); (focus ((repeat (first | with_reducible exact Ext.refl _ | with_reducible assumption | with_reducible apply Ext.alloc | with_reducible apply Ext.drew | with_reducible apply Ext.drewN | (with_reducible refine Ext.trans ?_ (by assumption)) | ((with_reducible refine Ext.set ?_ ?_ _); rotate_left; (focus (first | (simp; done) | omega | (simp; omega)))))); done))) | with_reducible apply Keep.alloc | with_reducible apply Keep.drew | with_reducible apply Keep.drewN | (with_reducible refine Keep.transE ?_ (by assumption)) | ((with_reducible apply Keep.setB); rotate_left; (focus ((repeat (first | with_reducible assumption | ((with_reducible apply Tof.newAt); (focus (simp; done))) | with_reducible apply Tof.set | with_reducible apply Tof.alloc | with_reducible apply Tof.drew | with_reducible apply Tof.drewN | ((with_reducible apply Tof.ext); rotate_left; (focus (with_reducible assumption))))); done)); (focus (decide; done))))); done)); rintro e w3 ⟨rfl, he3⟩; obtain ⟨rc3, rf3⟩ := he3.reads; have rz3 : w.heap.size < w3.heap.size := (by have := he3.size; (try simp at this); omega); have rn3 : ¬ w.heap.size = w3.heap.size := (by omega); have rm3 : ¬ w3.heap.size = w.heap.size := (by omega); (try have ry3 : w.heap.size + 1 < w3.heap.size := (by have := he3.size; (try simp at this); omega)); (try have rx3 : w.heap.size + 1 + 1 < w3.heap.size := (by have := he3.size; (try simp at this); omega)); (try have sz3_1 : w1.heap.size < w3.heap.size := (by first | (have := he3.size; (try simp at this); omega) | (have := he3.size; (try simp at this); omega))); (try have sn3_1 : ¬ w1.heap.size = w3.heap.size := (by omega)); (try have sm3_1 : ¬ w3.heap.size = w1.heap.size := (by omega)); (try have sy3_1 : w1.heap.size + 1 < w3.heap.size := (by have := he3.size; (try simp at this); omega)); (try have sz3_2 : w2.heap.size < w3.heap.size := (by first | (have := he3.size; (try simp at this); omega) | (have := he3.size; (try simp at this); omega))); (try have sn3_2 : ¬ w2.heap.size = w3.heap.size := (by omega)); (try have sm3_2 : ¬ w3.heap.size = w2.heap.size := (by omega)); (try have sy3_2 : w2.heap.size + 1 < w3.heap.size := (by have := he3.size; (try simp at this); omega))) | (go_at_call 32; (with_reducible refine (zzLastIndex 0 pt pi a1 len c1 _ hlen hp).mono ?_); rintro e w4 ⟨rfl, he4⟩; obtain ⟨rc4, rf4⟩ := he4.reads; have rz4 : w.heap.size < w4.heap.size := (by have := he4.size; (try simp at this); omega); have rn4 : ¬ w.heap.size = w4.heap.size := (by omega); have rm4 : ¬ w4.heap.size = w.heap.size := (by omega); (try have ry4 : w.heap.size + 1 < w4.heap.size := (by have := he4.size; (try simp at this); omega)); (try have rx4 : w.heap.size + 1 + 1 < w4.heap.size := (by have := he4.size; (try simp at this); omega)); (try have sz4_1 : w1.heap.size < w4.heap.size := (by first | (have := he4.size; (try simp at this); omega) | (have := he4.size; (try simp at this); omega))); (try have sn4_1 : ¬ w1.heap.size = w4.heap.size := (by omega)); (try have sm4_1 : ¬ w4.heap.size = w1.heap.size := (by omega)); (try have sy4_1 : w1.heap.size + 1 < w4.heap.size := (by have := he4.size; (try simp at this); omega))))
  all_goals
    obtain rfl := hq.symm
    have hb : Blk w4 (w.heap.size + 1) #[.int .u64 0, .int .u64 0] 29 := by (repeat (first | with_reducible assumption | ((with_reducible refine Blk.newAt ?_ _ _); (focus (simp; done))) | with_reducible apply Blk.drew | with_reducible apply Blk.drewN | with_reducible apply Blk.alloc | (with_reducible refine Blk.ext ?_ (by assumption)) | ((with_reducible refine Blk.setOther ?_ ?_ _); rotate_left; (focus (first | (simp; done) | (simp; omega))))))
    refine bodyPost_ret (ret_blk_tmp rfl ((hb.set 0 (.int .u64 (lastID pt pi l).1)).set 1 (.int .u64 (lastID pt pi l).2)) (by rfl) Try.underlying29 rfl (by kernel_rfl)) rfl ?_
    exact ⟨rfl, by (repeat (first | with_reducible exact Ext.refl _ | with_reducible assumption | with_reducible apply Ext.alloc | with_reducible apply Ext.drew | with_reducible apply Ext.drewN | (with_reducible refine Ext.trans ?_ (by assumption)) | ((with_reducible refine Ext.set ?_ ?_ _); rotate_left; (focus (first | (simp; done) | omega | (simp; omega))))))⟩
end Go.Proofs.Ytieklcdpnehpnaa
