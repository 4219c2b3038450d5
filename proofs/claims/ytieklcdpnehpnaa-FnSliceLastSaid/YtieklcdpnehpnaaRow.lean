/-
  rowOf: entries with indexes from one on, that follow each other.
-/
import Derived.Test.YtieklcdpnehpnaaRows
import Derived.Test.YtieklcdpnehpnaaBase
import Derived.Test.YtieklcdpnehpnaaSees
import Derived.Test.YtieklcdpnehpnaaEnt
set_option linter.unusedVariables false
set_option linter.unusedSimpArgs false
namespace Go.Proofs.Ytieklcdpnehpnaa
open Go.RowKit

def rowE (f : Int) (k : Nat) (e : Ent) : Ent := { e with index := f + k, term := e.term % 4611686018427387904 }
/-- What rowOf gives. -/
def rowL (f : Int) (l : List Ent) : List Ent := ((l.take 60).map shortE).mapIdx (rowE f)

set_option maxRecDepth 100000 in
set_option maxHeartbeats 1000000 in
theorem rowOf_any (f : Int) (a : Option Addr) (len cap : Nat) (l : List Ent) (w : World) (hrow : FlatRow w 4 Ent.cells a len cap l) (hok : ∀ x, x ∈ l → x.ok) (hlen : len ≤ 2147483647) (h0 : 0 ≤ f) (h1 : f ≤ 18446744073709551000) :
    Calls Try.prog 13 #[.int .u64 f, .slice a len cap] w fun e w' => ∃ g c, e = .returned (.slice (some ⟨g, 0, none⟩) (min len 60) c) ∧ OwnRow w' w.heap.size g 34 4 Ent.cells c (rowL f l) ∧ Ext w w' := by
  have hl := hrow.length
  have X := Lib.hid hrow
  have HL := Lib.hid hl
  have HOK := Lib.hid hok
  clear hrow hl hok
  obtain ⟨m, hm, hmv⟩ : ∃ m, m = min len 60 ∧ m ≤ 60 := ⟨_, rfl, by omega⟩
  have HM := Lib.hid hm
  have hs : ∀ W, Ext w W → Calls Try.prog 15 #[.slice a len cap] W fun e w' => ∃ g c, e = .returned (.slice (some ⟨g, 0, none⟩) m c) ∧ OwnRow w' W.heap.size g 34 4 Ent.cells c ((l.take 60).map shortE) ∧ Ext W w' := fun W hE => by
    rw [HM.out]; exact shortEntries_any a len cap l W (X.out.ext hE) HOK.out hlen
  have HS := Lib.hid hs
  clear hs hm
  go_enter Try.func13, Try.ntmps13
  go_wp2_with (go_at_call 15; refine (HS.out _ (Ext.refl _)).mono ?_; rintro e w1 ⟨g, cc, rfl, hr1, he1⟩; have R1 := Lib.hid hr1; clear hr1)
  obtain ⟨L, hL⟩ : ∃ L, L = (l.take 60).map shortE := ⟨_, rfl⟩
  have hLm : L.length = m := by rw [hL, List.length_map, List.length_take, HL.out, HM.out]; omega
  have hLok : ∀ x, x ∈ L → 0 ≤ x.term ∧ x.term < 18446744073709551616 := by
    intro x hx
    rw [hL, List.mem_map] at hx
    obtain ⟨y, hy, rfl⟩ := hx
    exact (HOK.out y (List.mem_of_mem_take hy)).1
  have Q := Lib.hid (And.intro hL (And.intro hLm hLok))
  rw [← hL] at R1
  clear hL hLm hLok
  go_loopw [11] (fun i wr => ∃ (k : Nat), k ≤ m ∧ i = .int .i64 k ∧ OwnRow wr w.heap.size g 34 4 Ent.cells cc (mixI (rowE f) k L) ∧ Ext w wr) (fun i _ => m - (intOf i).toNat)
  case atStart => exact ⟨0, Nat.zero_le _, rfl, by rw [mixI_zero]; exact R1.out, he1⟩
  case round =>
    obtain ⟨k, hk, rfl, hrow, hext⟩ := hrel
    by_cases hlt : k < m
    · obtain ⟨x, hx⟩ := get_of_lt L (k := k) (by rw [Q.out.2.1]; exact hlt)
      have hxk := mixI_get (rowE f) hx
      have hxt := Q.out.2.2 x (List.mem_of_getElem? hx)
      obtain ⟨hxt0, hxt1⟩ := hxt
      have c0 : wr.cell? ⟨g, k * 4, none⟩ = some (.int .u64 x.term) := hrow.cell hxk (j := 0) rfl
      have c1 : wr.cell? ⟨g, k * 4 + 1, none⟩ = some (.int .u64 x.index) := hrow.cell hxk (j := 1) rfl
      have f0 : wr.frozen? ⟨g, k * 4, none⟩ = false := hrow.free _
      have f1 : wr.frozen? ⟨g, k * 4 + 1, none⟩ = false := hrow.free _
      have Z := Lib.hid (And.intro hrow (And.intro hx hxk))
      clear hrow hx hxk
      go_wp2
      have h1 := Z.out.1.set Ent.cells_length Z.out.2.2 { x with index := f + k } 1 (.int .u64 (f + k)) (by decide) rfl
      have h2 := h1.set Ent.cells_length (set_get Z.out.2.2 _) (rowE f k x) 0 (.int .u64 (x.term % 4611686018427387904)) (by decide) rfl
      rw [List.set_set, mixI_set _ Z.out.2.1] at h2
      go_roundw
      case rel => exact ⟨k + 1, by omega, by go_num, h2, ((hext.set Z.out.1.base_le _).set Z.out.1.base_le _)⟩
      case measure => simp [intOf]; omega
    · obtain rfl : k = m := by omega
      rw [mixI_full _ _ _ (by rw [Q.out.2.1]; omega)] at hrow
      have Z := Lib.hid hrow
      clear hrow
      go_wp2
      refine bodyPost_ret (results_tmp rfl _ _ _) rfl ?_
      refine ⟨g, cc, ?_, ?_, hext⟩
      · rw [← HM.out]; rfl
      · have := Z.out
        rwa [Q.out.1] at this
end Go.Proofs.Ytieklcdpnehpnaa
