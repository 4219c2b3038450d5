/-
  The package's entries: made from plain ones, read, measured.
-/
import Derived.Test.YthfdhamencefiaaRows
import Derived.Test.YthfdhamencefiaaBase
import Derived.Test.YthfdhamencefiaaSees
import Derived.Test.YthfdhamencefiaaBytes
import Derived.Test.YthfdhamencefiaaEnt
set_option linter.unusedVariables false
set_option linter.unusedSimpArgs false
namespace Go.Proofs.Ythfdhamencefiaa
open Go.RowKit

def entS : List TypeId := [110, 28, 92, 5]
/-- The package's entry; its kind is not set if it is 0, its data nil if there are none. -/
def EntP (w : World) (v : Value) (e : Ent) : Prop :=
  ∃ b p1 p2 p3 dv, v = (Value.pointer (some ⟨b, 0, none⟩)) ∧ Blk w b #[.pointer p1, .pointer p2, .pointer p3, dv] 110 ∧ SetP 28 .u64 w p1 e.term ∧ SetP 28 .u64 w p2 e.index ∧
    ((e.kind = 0 ∧ p3 = none) ∨ (e.kind ≠ 0 ∧ SetP 92 .i32 w p3 e.kind)) ∧ BytesP 5 w dv e.data ∧ (e.data.size = 0 → dv = .slice none 0 0)
theorem EntP.keep {w w' : World} {v : Value} {e : Ent} (h : EntP w v e) (k : Keep entS w w') : EntP w' v e := by
  obtain ⟨b, p1, p2, p3, dv, hv, hb, h1, h2, h3, h4, h5⟩ := h
  exact ⟨b, p1, p2, p3, dv, hv, k.blk hb (by simp [entS]), h1.keep k (by simp [entS]), h2.keep k (by simp [entS]), h3.imp id (fun ⟨a, c⟩ => ⟨a, c.keep k (by simp [entS])⟩), h4.keep k (by simp [entS]), h5⟩
theorem EntP.ext {w w' : World} {v : Value} {e : Ent} (h : EntP w v e) (k : Ext w w') : EntP w' v e := h.keep (k.keep _)
theorem EntP.shape {w : World} {v : Value} {e : Ent} (h : EntP w v e) : ∃ b, v = (Value.pointer (some ⟨b, 0, none⟩)) := by
  obtain ⟨b, p1, p2, p3, dv, hv, _⟩ := h; exact ⟨b, hv⟩

set_option maxRecDepth 100000 in
set_option maxHeartbeats 1000000 in
theorem entryTo_any (e : Ent) (w : World) (hk : 0 ≤ e.kind ∧ e.kind ≤ 2) :
    Calls Try.prog 49 #[.agg #[.int .u64 e.term, .int .u64 e.index, .int .i64 e.kind, .string e.data]] w fun r w' => ∃ b, r = .returned (Value.pointer (some ⟨b, 0, none⟩)) ∧ EntP w' (Value.pointer (some ⟨b, 0, none⟩)) e ∧ Ext w w' := by
  obtain ⟨term, index, kind, data⟩ := e
  simp only at hk ⊢
  by_cases h0 : kind = 0
  · subst h0
    go_enter Try.func49, Try.ntmps49
    go_wp2_with (go_at_call 68; refine (bytesOf_any _ _).mono ?_; rintro r w1 ⟨v1, rfl, hb1, he1⟩; obtain ⟨a1, c1, hv1⟩ := hb1.1.shape; subst hv1; have H1 := Lib.hid hb1; obtain ⟨rc1, rf1⟩ := he1.reads; (try have rz1 : w.heap.size < w1.heap.size := (by have := he1.size; (try simp at this); omega)); (try have rn1 : ¬ w.heap.size = w1.heap.size := (by omega)); (try have rm1 : ¬ w1.heap.size = w.heap.size := (by omega)); (try have ry1 : w.heap.size + 1 < w1.heap.size := (by have := he1.size; (try simp at this); omega)); (try have rx1 : w.heap.size + 1 + 1 < w1.heap.size := (by have := he1.size; (try simp at this); omega)); clear hb1)
    refine bodyPost_ret (results_tmp rfl _ _ _) rfl ?_
    refine ⟨_, rfl, ⟨_, some ⟨w.heap.size + 1, 0, none⟩, some ⟨w.heap.size + 1 + 1, 0, none⟩, none, _, rfl, Blk.new _ _ _, ⟨_, rfl, ?_⟩, ⟨_, rfl, ?_⟩, .inl ⟨rfl, rfl⟩, H1.out.1.keep (((Ext.refl _).alloc _).keep _) (List.mem_singleton.2 rfl), H1.out.2⟩, by (repeat (first | with_reducible exact Ext.refl _ | with_reducible assumption | with_reducible apply Ext.alloc | with_reducible apply Ext.drew | with_reducible apply Ext.drewN | (with_reducible refine Ext.trans ?_ (by assumption)) | ((with_reducible refine Ext.set ?_ ?_ _); rotate_left; (focus (first | (simp; done) | omega | (simp; omega))))))⟩
    · exact ((by simp [blk_alloc] : Blk _ _ _ _).ext he1).alloc _
    · exact ((by simp [blk_alloc] : Blk _ _ _ _).ext he1).alloc _
  · have h1 : (kind != 0) = true := by rw [bne_iff_ne]; exact h0
    have hw : wrap32 kind = kind := by unfold wrap32; omega
    go_enter Try.func49, Try.ntmps49
    go_wp2_with (go_at_call 68; refine (bytesOf_any _ _).mono ?_; rintro r w1 ⟨v1, rfl, hb1, he1⟩; obtain ⟨a1, c1, hv1⟩ := hb1.1.shape; subst hv1; have H1 := Lib.hid hb1; obtain ⟨rc1, rf1⟩ := he1.reads; (try have rz1 : w.heap.size < w1.heap.size := (by have := he1.size; (try simp at this); omega)); (try have rn1 : ¬ w.heap.size = w1.heap.size := (by omega)); (try have rm1 : ¬ w1.heap.size = w.heap.size := (by omega)); (try have ry1 : w.heap.size + 1 < w1.heap.size := (by have := he1.size; (try simp at this); omega)); (try have rx1 : w.heap.size + 1 + 1 < w1.heap.size := (by have := he1.size; (try simp at this); omega)); clear hb1)
    refine bodyPost_ret (results_tmp rfl _ _ _) rfl ?_
    refine ⟨_, rfl, ⟨_, some ⟨w.heap.size + 1, 0, none⟩, some ⟨w.heap.size + 1 + 1, 0, none⟩, some ⟨w1.heap.size + 1, 0, none⟩, _, rfl, (Blk.new _ _ _).alloc _, ⟨_, rfl, ?_⟩, ⟨_, rfl, ?_⟩, .inr ⟨h0, _, rfl, ?_⟩, H1.out.1.keep ((((Ext.refl _).alloc _).alloc _).keep _) (List.mem_singleton.2 rfl), H1.out.2⟩, by (repeat (first | with_reducible exact Ext.refl _ | with_reducible assumption | with_reducible apply Ext.alloc | with_reducible apply Ext.drew | with_reducible apply Ext.drewN | (with_reducible refine Ext.trans ?_ (by assumption)) | ((with_reducible refine Ext.set ?_ ?_ _); rotate_left; (focus (first | (simp; done) | omega | (simp; omega))))))⟩
    · exact (((by simp [blk_alloc] : Blk _ _ _ _).ext he1).alloc _).alloc _
    · exact (((by simp [blk_alloc] : Blk _ _ _ _).ext he1).alloc _).alloc _
    · simp [blk_alloc]

theorem infoEntP : (Try.prog.info? 90).map (fun i => (i.zero, i.size, i.bytes)) = some (some (.pointer none), 1, 8) := by kernel_rfl

set_option maxRecDepth 100000 in
set_option maxHeartbeats 1000000 in
theorem entriesTo_any (a : Option Addr) (len cap : Nat) (l : List Ent) (w : World) (hrow : FlatRow w 4 Ent.cells a len cap l) (hkind : ∀ e, e ∈ l → 0 ≤ e.kind ∧ e.kind ≤ 2) (hlen : len ≤ 2147483647) :
    Calls Try.prog 26 #[.slice a len cap] w fun e w' => ∃ v xs, e = .returned v ∧ w'.ownsRow w.heap.size 90 1 v len xs ∧ All2 (EntP w') xs l ∧ Ext w w' := by
  obtain ⟨i0, hi, hz0, hz1, hz2⟩ := info_parts infoEntP
  have X := Lib.hid hrow
  have HK := Lib.hid hkind
  clear hrow hkind
  go_enter Try.func26, Try.ntmps26
  go_wp2
  go_loopw [3, 8] (fun v i wr => ∃ (k : Nat) (xs : List Value), k ≤ len ∧ i = .int .i64 k ∧ wr.ownsRow w.heap.size 90 1 v k xs ∧ All2 (EntP wr) xs (l.take k) ∧ Ext w wr) (fun _ i _ => len - (intOf i).toNat)
  case atStart => exact ⟨0, [], Nat.zero_le _, rfl, World.ownsRow_nil _ _ _ _, All2.nil _, Ext.refl _⟩
  case round =>
    obtain ⟨k, xs, hk, rfl, hown, hall, hext⟩ := hrel
    by_cases hlt : k < len
    · obtain ⟨y, b, off, hy, rfl, hcell⟩ := X.out.get hlt
      have d0 : wr.cell? ⟨b, off + k * 4, none⟩ = some (.int .u64 y.term) := hext.cellAt (hcell 0 _ rfl)
      have d1 : wr.cell? ⟨b, off + k * 4 + 1, none⟩ = some (.int .u64 y.index) := hext.cellAt (hcell 1 _ rfl)
      have d2 : wr.cell? ⟨b, off + k * 4 + 2, none⟩ = some (.int .i64 y.kind) := hext.cellAt (hcell 2 _ rfl)
      have d3 : wr.cell? ⟨b, off + k * 4 + 3, none⟩ = some (.string y.data) := hext.cellAt (hcell 3 _ rfl)
      have hky := Lib.hid (HK.out y (List.mem_of_getElem? hy))
      have Z := Lib.hid (And.intro hall hy)
      clear hall hcell hy
      go_wp2_with (first | (go_at_call 49; (with_reducible refine (entryTo_any y _ hky.out).mono ?_); rintro e w1 ⟨b1, rfl, hs1, he1⟩; have hs1 := Lib.hid hs1; have hown1 := hown.kept (row := none) (World.grownBy_of_ext ((Ext.refl _).alloc _ |>.trans he1)) (by cases hv : u3.ownBlock <;> simp)) | (at_builtin; refine wpList_append_own _ rfl _ _ 69 rfl w.heap.size 90 i0 (.pointer none) 1 8 Try.underlying69 hi hz0 hz1 hz2 rfl (by decide) _ _ _ rfl (hown1.alloc _) ⟨w1.heap.size, 0, none⟩ 1 1 [(Value.pointer (some ⟨b1, 0, none⟩))] rfl rfl (cell_one_new _ _ _) (by simp [Value.oneCell']) (by unfold maxLen; omega) (by omega) (by simp; have := hext.size; have := he1.size; simp at this; omega) ?_; intro v' w2 hown2 hgrow2 _))
      have K2 : Keep entS w1 w2 := (((Ext.refl w1).alloc _).keep _).trans (Keep.grown (hown1.alloc _) hgrow2 (by simp [entS]))
      have K1 : Keep entS wr w2 := (((Ext.refl wr).alloc _ |>.trans he1).keep _).trans K2
      have E2 : Ext w w2 := Ext.grown ((hext.trans ((Ext.refl wr).alloc _ |>.trans he1)).alloc _) hgrow2 (fun j hj => (hown.lt j hj).1)
      go_roundw
      case rel => exact ⟨k + 1, _, by omega, by go_num, hown2, by rw [take_succ_of Z.out.2]; exact (Z.out.1.imp fun x y h => h.keep K1).snoc (hs1.out.keep K2), E2⟩
      case measure => simp [intOf]; omega
    · have hkl : k = len := by omega
      subst hkl
      have Z := Lib.hid hall
      have hl := X.out.length
      clear hall
      go_wp2
      refine bodyPost_ret (results_tmp rfl _ _ _) rfl ?_
      refine ⟨_, xs, rfl, hown, ?_, hext⟩
      have h := Z.out
      rwa [List.take_of_length_le (by omega)] at h

def one1 (x : Value) : List Value := [x]
/-- A slice of the package's entries. -/
def EntsP (w : World) (a : Option Addr) (len cap : Nat) (l : List Ent) : Prop := ∃ xs, FlatT w 90 1 one1 a len cap xs ∧ All2 (EntP w) xs l
def entsS : List TypeId := [90, 110, 28, 92, 5]
theorem EntsP.keep {w w' : World} {a : Option Addr} {len cap : Nat} {l : List Ent} (h : EntsP w a len cap l) (e : Keep entsS w w') : EntsP w' a len cap l := by
  obtain ⟨xs, h1, h2⟩ := h
  exact ⟨xs, h1.keep e (by simp [entsS]), h2.imp fun x y h => h.keep (e.sub fun t ht => List.mem_cons_of_mem _ ht)⟩
theorem EntsP.ext {w w' : World} {a : Option Addr} {len cap : Nat} {l : List Ent} (h : EntsP w a len cap l) (e : Ext w w') : EntsP w' a len cap l := by
  exact h.keep (e.keep _)
theorem EntsP.length {w : World} {a : Option Addr} {len cap : Nat} {l : List Ent} (h : EntsP w a len cap l) : l.length = len := by
  obtain ⟨xs, h1, h2⟩ := h
  rw [← h2.1, h1.length]
theorem EntsP.le {w : World} {a : Option Addr} {len cap : Nat} {l : List Ent} (h : EntsP w a len cap l) : len ≤ cap := by
  obtain ⟨xs, h1, h2⟩ := h
  exact h1.le
/-- One element. -/
theorem EntsP.get {w : World} {a : Option Addr} {len cap : Nat} {l : List Ent} (h : EntsP w a len cap l) {i : Nat} (hi : i < len) :
    ∃ y b off c, l[i]? = some y ∧ a = some ⟨b, off, none⟩ ∧ w.cell? ⟨b, off + i, none⟩ = some (Value.pointer (some ⟨c, 0, none⟩)) ∧ EntP w (Value.pointer (some ⟨c, 0, none⟩)) y := by
  obtain ⟨xs, h1, h2⟩ := h
  obtain ⟨x, b, off, hx, ha, hc⟩ := h1.flat.get hi
  have hl : i < l.length := by rw [← h2.1, h1.length]; exact hi
  have hp := h2.2 i x l[i] hx (List.getElem?_eq_getElem hl)
  obtain ⟨c, rfl⟩ := hp.shape
  refine ⟨l[i], b, off, c, List.getElem?_eq_getElem hl, ha, ?_, hp⟩
  have := hc 0 _ rfl
  rwa [Nat.mul_one, Nat.add_zero] at this

/-- a row of the call's own, of cells, reads flat -/
theorem flat_of_owns {w : World} {base : Nat} {e : TypeId} {v : Value} {n : Nat} {xs : List Value} (h : w.ownsRow base e 1 v n xs) : ∃ a c, v = .slice a n c ∧ FlatT w e 1 one1 a n c xs := by
  have hl : xs.length = n := by rw [h.1, Nat.mul_one]
  rcases h.2 with ⟨h1, h2⟩ | ⟨g, cap, cur, hv', hg, hb, hle, hmax, hsz, htake⟩
  · subst h2
    exact ⟨none, 0, h1, hl, Nat.le_refl _, Nat.zero_le _, fun _ => ⟨rfl, rfl⟩, fun i x hx => by rw [List.eq_nil_of_length_eq_zero hl] at hx; simp at hx⟩
  · refine ⟨some ⟨g, 0, none⟩, cap, hv', hl, hle, hmax, fun hn => by simp at hn, fun i x hx => ⟨g, 0, cur, (0, 0), rfl, hb, fun j u hu => ?_⟩⟩
    have hj : j = 0 := by
      have := (List.getElem?_eq_some_iff.1 hu).1
      simp [one1] at this; omega
    subst hj
    simp [one1] at hu
    subst hu
    rw [Nat.zero_add, Nat.mul_one, Nat.add_zero]
    rw [← htake, List.getElem?_take] at hx
    split at hx
    · simpa using hx
    · cases hx
theorem entsP_of_owns {w : World} {base : Nat} {v : Value} {n : Nat} {xs : List Value} {l : List Ent} (h : w.ownsRow base 90 1 v n xs) (h2 : All2 (EntP w) xs l) : ∃ a c, v = .slice a n c ∧ EntsP w a n c l := by
  obtain ⟨a, c, hv, hf⟩ := flat_of_owns h
  exact ⟨a, c, hv, xs, hf, h2⟩

theorem entriesTo_ents (a : Option Addr) (len cap : Nat) (l : List Ent) (w : World) (hrow : FlatRow w 4 Ent.cells a len cap l) (hkind : ∀ e, e ∈ l → 0 ≤ e.kind ∧ e.kind ≤ 2) (hlen : len ≤ 2147483647) :
    Calls Try.prog 26 #[.slice a len cap] w fun e w' => ∃ a' c', e = .returned (.slice a' len c') ∧ EntsP w' a' len c' l ∧ Ext w w' :=
  (entriesTo_any a len cap l w hrow hkind hlen).mono fun e w' ⟨v, xs, he, ho, h2, hx⟩ => by
    obtain ⟨a', c', hv, hp⟩ := entsP_of_owns ho h2
    exact ⟨a', c', by rw [he, hv], hp, hx⟩

set_option maxHeartbeats 400000 in
theorem entTerm (b : Nat) (e : Ent) (w : World) (h : EntP w (Value.pointer (some ⟨b, 0, none⟩)) e) :
    Calls Try.prog 44 #[(Value.pointer (some ⟨b, 0, none⟩))] w fun r w' => r = .returned (.int .u64 e.term) ∧ w = w' := by
  obtain ⟨b0, p1, p2, p3, dv, hv, hb, ⟨b1, rfl, hb1⟩, -⟩ := h
  simp at hv
  subst hv
  have d0 := hb.cell 0
  have d1 := hb1.cell 0
  simp at d0 d1
  clear hb hb1
  go_enter Try.func44, Try.ntmps44
  go_wp2
  go_ret
  exact ⟨rfl, rfl⟩

set_option maxHeartbeats 400000 in
theorem entIndex (b : Nat) (e : Ent) (w : World) (h : EntP w (Value.pointer (some ⟨b, 0, none⟩)) e) :
    Calls Try.prog 45 #[(Value.pointer (some ⟨b, 0, none⟩))] w fun r w' => r = .returned (.int .u64 e.index) ∧ w = w' := by
  obtain ⟨b0, p1, p2, p3, dv, hv, hb, -, ⟨b1, rfl, hb1⟩, -⟩ := h
  simp at hv
  subst hv
  have d0 := hb.cell 1
  have d1 := hb1.cell 0
  simp at d0 d1
  clear hb hb1
  go_enter Try.func45, Try.ntmps45
  go_wp2
  go_ret
  exact ⟨rfl, rfl⟩

end Go.Proofs.Ythfdhamencefiaa
