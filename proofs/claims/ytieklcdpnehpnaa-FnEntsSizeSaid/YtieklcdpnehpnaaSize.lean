/-
  The sizes of entries.
-/
import Derived.Test.YtieklcdpnehpnaaRows
import Derived.Test.YtieklcdpnehpnaaBase
import Derived.Test.YtieklcdpnehpnaaSees
import Derived.Test.YtieklcdpnehpnaaBytes
import Derived.Test.YtieklcdpnehpnaaEnt
import Derived.Test.YtieklcdpnehpnaaEntP
import Derived.Deep.RegionHeld3
import Derived.Deep.QuietTactic
import Derived.BigQuiet
set_option linter.unusedVariables false
set_option linter.unusedSimpArgs false
namespace Go.Proofs.Ytieklcdpnehpnaa
open Go.RowKit

/-- How many bytes a number takes. -/
def varint (n : Nat) : Nat := if n < 128 then 1 else 1 + varint (n / 128)
theorem varint_le : ∀ (k n : Nat), n < 128 ^ (k + 1) → varint n ≤ k + 1
  | 0, n, h => by unfold varint; rw [if_pos (by simpa using h)]; omega
  | k + 1, n, h => by
    unfold varint
    split
    · omega
    · have := varint_le k (n / 128) (by rw [Nat.div_lt_iff_lt_mul (by decide)]; rwa [Nat.pow_succ] at h)
      omega
theorem varint_pos (n : Nat) : 1 ≤ varint n := by unfold varint; split <;> omega
theorem varint_u64 {n : Nat} (h : n < 18446744073709551616) : varint n ≤ 10 := by
  refine varint_le 9 n ?_
  have : (128 : Nat) ^ (9 + 1) = 1180591620717411303424 := by decide
  omega

/-- The same, of an Int. -/
def varintI (n : Int) : Int := varint n.toNat
theorem varintI_lt {n : Int} (h : n < 128) : varintI n = 1 := by unfold varintI varint; rw [if_pos (by omega)]; rfl
theorem varintI_ge {n : Int} (h : ¬ n < 128) : varintI n = 1 + varintI (n / 128) := by
  unfold varintI
  rw [varint, if_neg (by omega)]
  have : (n / 128).toNat = n.toNat / 128 := by omega
  rw [this]
  omega
theorem varintI_pos (n : Int) : 1 ≤ varintI n := by have := varint_pos n.toNat; unfold varintI; omega
theorem varintI_u64 {n : Int} (h : n < 18446744073709551616) : varintI n ≤ 10 := by have := varint_u64 (n := n.toNat) (by omega); unfold varintI; omega

set_option maxHeartbeats 1000000 in
theorem zzVarint_any (n : Int) (w : World) (hn : 0 ≤ n ∧ n < 18446744073709551616) :
    Calls Try.prog 65 #[.int .u64 n] w fun r w' => r = .returned (.int .i64 (varintI n)) ∧ w = w' := by
  obtain ⟨hn0, hn1⟩ := hn
  obtain ⟨V, hV⟩ : ∃ V, V = varintI n := ⟨_, rfl⟩
  have hv : V ≤ 10 := by rw [hV]; exact varintI_u64 hn1
  rw [← hV]
  have HV := Lib.hid hV
  clear hV
  go_enter Try.func65, Try.ntmps65
  go_wp2
  go_loopw [0, 3] (fun v s wr => ∃ (k z : Int), v = .int .u64 k ∧ s = .int .i64 z ∧ z + varintI k = V + 1 ∧ 0 ≤ k ∧ k ≤ n ∧ 1 ≤ z ∧ wr = w) (fun v _ _ => (intOf v).toNat)
  case atStart => exact ⟨n, 1, rfl, rfl, by rw [HV.out]; omega, hn0, by omega, by omega, rfl⟩
  case round =>
    obtain ⟨k, z, rfl, rfl, hz, hk0, hkn, hz1, rfl⟩ := hrel
    have hp := varintI_pos k
    have hz10 : z ≤ 11 := by omega
    by_cases hlt : k < 128
    · have hz' : z = V := by rw [varintI_lt hlt] at hz; omega
      subst hz'
      clear hz hp
      go_wp2
      refine bodyPost_ret (results_tmp rfl _ _ _) rfl ?_
      exact ⟨rfl, rfl⟩
    · rw [varintI_ge hlt] at hz
      have HZ := Lib.hid hz
      clear hz hp
      go_wp2
      go_roundw
      case rel => exact ⟨k / 128, z + 1, by go_num, by go_num, by have := HZ.out; omega, by omega, by omega, by omega, trivial⟩
      case measure => simp [intOf]; omega

/-- The size of an entry. -/
def sizeE (e : Ent) : Int := (if e.kind = 0 then 0 else 1 + varintI e.kind) + (1 + varintI e.term) + (1 + varintI e.index) + (if e.data.size = 0 then 0 else 1 + varintI e.data.size + e.data.size)

set_option maxRecDepth 100000 in
set_option maxHeartbeats 1000000 in
theorem zzSize_any (b : Nat) (e : Ent) (w : World) (h : EntP w (Value.pointer (some ⟨b, 0, none⟩)) e) (hk : 0 ≤ e.kind ∧ e.kind ≤ 2) (ht : 0 ≤ e.term ∧ e.term < 18446744073709551616) (hx : 0 ≤ e.index ∧ e.index < 18446744073709551616) (hs : e.data.size ≤ 2147483647) :
    Calls Try.prog 61 #[(Value.pointer (some ⟨b, 0, none⟩))] w fun r w' => r = .returned (.int .i64 (sizeE e)) ∧ Ext w w' := by
  obtain ⟨b0, p1, p2, p3, dv, hv, hb, ⟨b1, rfl, hb1⟩, ⟨b2, rfl, hb2⟩, h3, h4, h5⟩ := h
  simp at hv
  subst hv
  have hk1 := (varintI_u64 (n := e.kind) (by omega))
  have ht1 := (varintI_u64 ht.2)
  have hx1 := (varintI_u64 hx.2)
  have hs1 := (varintI_u64 (n := e.data.size) (by omega))
  have hk0 := varintI_pos e.kind
  have ht0 := varintI_pos e.term
  have hx0 := varintI_pos e.index
  have hs0 := varintI_pos e.data.size
  have d0 := hb.cell 0
  have d1 := hb.cell 1
  have d2 := hb.cell 2
  have d3 := hb.cell 3
  have d4 := hb1.cell 0
  have d5 := hb2.cell 0
  simp at d0 d1 d2 d3 d4 d5
  clear hb hb1 hb2
  by_cases hd : e.data.size = 0
  · obtain rfl := h5 hd
    clear h4 h5
    rcases h3 with ⟨h30, rfl⟩ | ⟨h30, b3, rfl, hb3⟩
    · clear hk
      have hz : sizeE e = 1 + varintI e.term + (1 + varintI e.index) := by unfold sizeE; simp only [h30, hd, if_true, if_false]; try omega
      have HZ := Lib.hid hz
      clear hz
      go_enter Try.func61, Try.ntmps61
      go_wp2_with (first | (go_at_call 65; (with_reducible refine (zzVarint_any _ _ (by omega)).mono ?_); rintro r w1 ⟨rfl, rfl⟩))
      refine bodyPost_ret (results_tmp rfl _ _ _) rfl ?_
      exact ⟨by rw [HZ.out]; exact congrArg (fun z => Ending.returned (Value.int .i64 z)) (by omega), by (repeat (first | with_reducible exact Ext.refl _ | with_reducible assumption | with_reducible apply Ext.alloc | with_reducible apply Ext.drew | with_reducible apply Ext.drewN | (with_reducible refine Ext.trans ?_ (by assumption)) | ((with_reducible refine Ext.set ?_ ?_ _); rotate_left; (focus (first | (simp; done) | omega | (simp; omega))))))⟩
    · have d6 := hb3.cell 0
      simp at d6
      clear hb3
      obtain ⟨hk2, hk3⟩ := hk
      have hk4 : wrap32 e.kind = e.kind := by unfold wrap32; omega
      have hz : sizeE e = 1 + varintI e.kind + (1 + varintI e.term) + (1 + varintI e.index) := by unfold sizeE; simp only [h30, hd, if_true, if_false]; try omega
      have HZ := Lib.hid hz
      clear hz
      go_enter Try.func61, Try.ntmps61
      go_wp2_with (first | (go_at_call 65; (with_reducible refine (zzVarint_any _ _ (by omega)).mono ?_); rintro r w1 ⟨rfl, rfl⟩))
      refine bodyPost_ret (results_tmp rfl _ _ _) rfl ?_
      exact ⟨by rw [HZ.out]; exact congrArg (fun z => Ending.returned (Value.int .i64 z)) (by omega), by (repeat (first | with_reducible exact Ext.refl _ | with_reducible assumption | with_reducible apply Ext.alloc | with_reducible apply Ext.drew | with_reducible apply Ext.drewN | (with_reducible refine Ext.trans ?_ (by assumption)) | ((with_reducible refine Ext.set ?_ ?_ _); rotate_left; (focus (first | (simp; done) | omega | (simp; omega))))))⟩
  · obtain ⟨bd, od, cd, cc, fr, rfl, -⟩ := h4.resolve_left (fun h => hd h.2)
    clear h5
    rcases h3 with ⟨h30, rfl⟩ | ⟨h30, b3, rfl, hb3⟩
    · clear hk
      have hz : sizeE e = 1 + varintI e.term + (1 + varintI e.index) + (1 + varintI e.data.size + e.data.size) := by unfold sizeE; simp only [h30, hd, if_true, if_false]; try omega
      have HZ := Lib.hid hz
      clear hz
      go_enter Try.func61, Try.ntmps61
      go_wp2_with (first | (go_at_call 65; (with_reducible refine (zzVarint_any _ _ (by omega)).mono ?_); rintro r w1 ⟨rfl, rfl⟩))
      go_quiet ((go_at_call 65; exact Calls.quiet_of_same ((zzVarint_any _ _ (by omega)).mono fun e w' h => ⟨h.1, h.2.symm⟩)))
      go_wp2_with (first | (go_at_call 65; (with_reducible refine (zzVarint_any _ _ (by omega)).mono ?_); rintro r w1 ⟨rfl, rfl⟩))
      refine bodyPost_ret (results_tmp rfl _ _ _) rfl ?_
      exact ⟨by rw [HZ.out]; exact congrArg (fun z => Ending.returned (Value.int .i64 z)) (by omega), by (repeat (first | with_reducible exact Ext.refl _ | with_reducible assumption | with_reducible apply Ext.alloc | with_reducible apply Ext.drew | with_reducible apply Ext.drewN | (with_reducible refine Ext.trans ?_ (by assumption)) | ((with_reducible refine Ext.set ?_ ?_ _); rotate_left; (focus (first | (simp; done) | omega | (simp; omega))))))⟩
    · have d6 := hb3.cell 0
      simp at d6
      clear hb3
      obtain ⟨hk2, hk3⟩ := hk
      have hk4 : wrap32 e.kind = e.kind := by unfold wrap32; omega
      have hz : sizeE e = 1 + varintI e.kind + (1 + varintI e.term) + (1 + varintI e.index) + (1 + varintI e.data.size + e.data.size) := by unfold sizeE; simp only [h30, hd, if_true, if_false]; try omega
      have HZ := Lib.hid hz
      clear hz
      go_enter Try.func61, Try.ntmps61
      go_wp2_with (first | (go_at_call 65; (with_reducible refine (zzVarint_any _ _ (by omega)).mono ?_); rintro r w1 ⟨rfl, rfl⟩))
      go_quiet ((go_at_call 65; exact Calls.quiet_of_same ((zzVarint_any _ _ (by omega)).mono fun e w' h => ⟨h.1, h.2.symm⟩)))
      go_wp2_with (first | (go_at_call 65; (with_reducible refine (zzVarint_any _ _ (by omega)).mono ?_); rintro r w1 ⟨rfl, rfl⟩))
      refine bodyPost_ret (results_tmp rfl _ _ _) rfl ?_
      exact ⟨by rw [HZ.out]; exact congrArg (fun z => Ending.returned (Value.int .i64 z)) (by omega), by (repeat (first | with_reducible exact Ext.refl _ | with_reducible assumption | with_reducible apply Ext.alloc | with_reducible apply Ext.drew | with_reducible apply Ext.drewN | (with_reducible refine Ext.trans ?_ (by assumption)) | ((with_reducible refine Ext.set ?_ ?_ _); rotate_left; (focus (first | (simp; done) | omega | (simp; omega))))))⟩

/-- The numbers of an entry fit: of a kind that there is, its data not too long. -/
def Ent.fit (e : Ent) : Prop := (0 ≤ e.kind ∧ e.kind ≤ 2) ∧ (0 ≤ e.term ∧ e.term < 18446744073709551616) ∧ (0 ≤ e.index ∧ e.index < 18446744073709551616) ∧ e.data.size ≤ 2147483647
theorem sizeE_le {e : Ent} (h : e.fit) : 0 ≤ sizeE e ∧ sizeE e ≤ 2147483700 := by
  obtain ⟨hk, ht, hx, hs⟩ := h
  have hk1 := (varintI_u64 (n := e.kind) (by omega))
  have ht1 := (varintI_u64 ht.2)
  have hx1 := (varintI_u64 hx.2)
  have hs1 := (varintI_u64 (n := e.data.size) (by omega))
  have hk0 := varintI_pos e.kind
  have ht0 := varintI_pos e.term
  have hx0 := varintI_pos e.index
  have hs0 := varintI_pos e.data.size
  unfold sizeE
  split <;> split <;> omega
/-- The sum of the sizes. -/
def sumS : List Ent → Int
  | [] => 0
  | e :: r => sizeE e + sumS r
theorem sumS_snoc (e : Ent) : ∀ l : List Ent, sumS (l ++ [e]) = sumS l + sizeE e
  | [] => by simp [sumS]
  | x :: r => by rw [List.cons_append, sumS, sumS_snoc e r, sumS]; omega
theorem sumS_le : ∀ l : List Ent, (∀ e, e ∈ l → e.fit) → 0 ≤ sumS l ∧ sumS l ≤ l.length * 2147483700
  | [], _ => by simp [sumS]
  | x :: r, h => by
    have h1 := sizeE_le (h x (List.mem_cons_self ..))
    have h2 := sumS_le r (fun e he => h e (List.mem_cons_of_mem _ he))
    rw [sumS, List.length_cons]
    omega

set_option maxRecDepth 100000 in
set_option maxHeartbeats 1000000 in
theorem entsSize_any (a : Option Addr) (n c : Nat) (l : List Ent) (w : World) (h : EntsP w a n c l) (hf : ∀ e, e ∈ l → e.fit) (hn : n ≤ 2147483647) :
    Calls Try.prog 49 #[.slice a n c] w fun r w' => r = .returned (.int .u64 (sumS l)) ∧ Ext w w' := by
  have hl := h.length
  have X := Lib.hid h
  have HF := Lib.hid hf
  have HL := Lib.hid hl
  clear h hf hl
  go_enter Try.func49, Try.ntmps49
  go_wp2
  go_loopw [3, 8] (fun s i wr => ∃ (k : Nat) (z : Int), k ≤ n ∧ i = .int .i64 k ∧ s = .int .u64 z ∧ z = sumS (l.take k) ∧ Ext w wr) (fun _ i _ => n - (intOf i).toNat)
  case atStart => exact ⟨0, 0, Nat.zero_le _, rfl, rfl, rfl, Ext.refl _⟩
  case round =>
    obtain ⟨k, z, hk, rfl, rfl, hz, hext⟩ := hrel
    by_cases hlt : k < n
    · obtain ⟨y, b, off, d, hy, rfl, hcell, hp⟩ := X.out.get hlt
      have hyf := HF.out y (List.mem_of_getElem? hy)
      have hz1 := sumS_le (l.take k) (fun e he => HF.out e (List.mem_of_mem_take he))
      rw [← hz, List.length_take, HL.out, Nat.min_eq_left hk] at hz1
      have hs := sizeE_le hyf
      have c0 := hext.cellAt hcell
      have Z1 := Lib.hid hyf.1
      have Z2 := Lib.hid hyf.2.1
      have Z3 := Lib.hid hyf.2.2.1
      have Z4 := Lib.hid hyf.2.2.2
      have Z := Lib.hid (And.intro hz (And.intro hy hp))
      clear hz hy hp hcell hyf
      obtain ⟨q, hq⟩ : ∃ q, q = sizeE y := ⟨_, rfl⟩
      rw [← hq] at hs
      have hn1 : ((k : Int)) < n := by omega
      have HQ := Lib.hid hq
      clear hq
      obtain ⟨hs0, hs1⟩ := hs
      obtain ⟨hz0, hz1⟩ := hz1
      go_wp2_with (go_at_call 61; (with_reducible refine (zzSize_any d y _ (Z.out.2.2.ext (by (repeat (first | with_reducible exact Ext.refl _ | with_reducible assumption | with_reducible apply Ext.alloc | with_reducible apply Ext.drew | with_reducible apply Ext.drewN | (with_reducible refine Ext.trans ?_ (by assumption)) | ((with_reducible refine Ext.set ?_ ?_ _); rotate_left; (focus (first | (simp; done) | omega | (simp; omega)))))))) Z1.out Z2.out Z3.out Z4.out).mono ?_); rw [← HQ.out]; rintro r w1 ⟨rfl, he1⟩)
      go_roundw
      case rel => exact ⟨k + 1, z + q, by omega, by go_num, by go_num, by rw [take_succ_of Z.out.2.1, sumS_snoc, ← HQ.out, ← Z.out.1], by (repeat (first | with_reducible exact Ext.refl _ | with_reducible assumption | with_reducible apply Ext.alloc | with_reducible apply Ext.drew | with_reducible apply Ext.drewN | (with_reducible refine Ext.trans ?_ (by assumption)) | ((with_reducible refine Ext.set ?_ ?_ _); rotate_left; (focus (first | (simp; done) | omega | (simp; omega))))))⟩
      case measure => simp [intOf]; omega
    · obtain rfl : k = n := by omega
      rw [List.take_of_length_le (by have := HL.out; omega)] at hz
      subst hz
      go_wp2
      refine bodyPost_ret (results_tmp rfl _ _ _) rfl ?_
      exact ⟨rfl, hext⟩

set_option maxRecDepth 100000 in
set_option maxHeartbeats 1000000 in
theorem zzEntsSize_any (a : Option Addr) (n c : Nat) (l : List Ent) (w : World) (h : EntsP w a n c l) (hf : ∀ e, e ∈ l → e.fit) (hn : n ≤ 2147483647) :
    Calls Try.prog 33 #[.slice a n c] w fun r w' => r = .returned (.int .u64 (sumS l)) ∧ Ext w w' := by
  have hl := h.length
  have hz := sumS_le l hf
  rw [hl] at hz
  obtain ⟨hz0, hz1⟩ := hz
  have X := Lib.hid h
  have HF := Lib.hid hf
  clear h hf hl
  go_enter Try.func33, Try.ntmps33
  go_wp2_with (go_at_call 49; (with_reducible refine (entsSize_any a n c l _ (X.out.ext (by (repeat (first | with_reducible exact Ext.refl _ | with_reducible assumption | with_reducible apply Ext.alloc | with_reducible apply Ext.drew | with_reducible apply Ext.drewN | (with_reducible refine Ext.trans ?_ (by assumption)) | ((with_reducible refine Ext.set ?_ ?_ _); rotate_left; (focus (first | (simp; done) | omega | (simp; omega)))))))) HF.out hn).mono ?_); rintro r w1 ⟨rfl, he1⟩)
  go_ret
  exact ⟨rfl, by (repeat (first | with_reducible exact Ext.refl _ | with_reducible assumption | with_reducible apply Ext.alloc | with_reducible apply Ext.drew | with_reducible apply Ext.drewN | (with_reducible refine Ext.trans ?_ (by assumption)) | ((with_reducible refine Ext.set ?_ ?_ _); rotate_left; (focus (first | (simp; done) | omega | (simp; omega))))))⟩

set_option maxRecDepth 100000 in
set_option maxHeartbeats 1000000 in
theorem implEntsSize (a : Option Addr) (len cap : Nat) (l : List Ent) (w : World) (hrow : FlatRow w 4 Ent.cells a len cap l) (hf : ∀ e, e ∈ l → e.fit) (hlen : len ≤ 2147483647) :
    Calls Try.prog 17 #[.slice a len cap] w fun r w' => r = .returned (.int .u64 (sumS l)) ∧ Ext w w' := by
  have X := Lib.hid hrow
  have HF := Lib.hid hf
  have HK : ∀ e, e ∈ l → 0 ≤ e.kind ∧ e.kind ≤ 2 := fun e he => (hf e he).1
  have HK := Lib.hid HK
  clear hrow hf
  go_enter Try.func17, Try.ntmps17
  go_wp2_with (first | (go_at_call 30; (with_reducible refine (entriesTo_ents a len cap l _ (X.out.ext (by (repeat (first | with_reducible exact Ext.refl _ | with_reducible assumption | with_reducible apply Ext.alloc | with_reducible apply Ext.drew | with_reducible apply Ext.drewN | (with_reducible refine Ext.trans ?_ (by assumption)) | ((with_reducible refine Ext.set ?_ ?_ _); rotate_left; (focus (first | (simp; done) | omega | (simp; omega)))))))) HK.out hlen).mono ?_); rintro e w1 ⟨a1, c1, rfl, hp1, he1⟩; have H1 := Lib.hid hp1; clear hp1) | (go_at_call 33; (with_reducible refine (zzEntsSize_any a1 len c1 l _ (H1.out.ext (by (repeat (first | with_reducible exact Ext.refl _ | with_reducible assumption | with_reducible apply Ext.alloc | with_reducible apply Ext.drew | with_reducible apply Ext.drewN | (with_reducible refine Ext.trans ?_ (by assumption)) | ((with_reducible refine Ext.set ?_ ?_ _); rotate_left; (focus (first | (simp; done) | omega | (simp; omega)))))))) HF.out hlen).mono ?_); rintro r w2 ⟨rfl, he2⟩))
  go_ret
  exact ⟨rfl, by (repeat (first | with_reducible exact Ext.refl _ | with_reducible assumption | with_reducible apply Ext.alloc | with_reducible apply Ext.drew | with_reducible apply Ext.drewN | (with_reducible refine Ext.trans ?_ (by assumption)) | ((with_reducible refine Ext.set ?_ ?_ _); rotate_left; (focus (first | (simp; done) | omega | (simp; omega))))))⟩
end Go.Proofs.Ytieklcdpnehpnaa
