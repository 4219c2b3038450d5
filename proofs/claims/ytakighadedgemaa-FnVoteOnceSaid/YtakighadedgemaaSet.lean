/-
  spec.Set: a list's numbers, each once, rising.
-/
import Derived.Test.YtakighadedgemaaRows
import Derived.Test.YtakighadedgemaaBase
import Derived.Test.YtakighadedgemaaSees
import Derived.Test.YtakighadedgemaaU64s
import Derived.Test.YtakighadedgemaaVoteP
import Derived.Test.YtakighadedgemaaVoteM
import Derived.Test.YtakighadedgemaaSetP
set_option linter.unusedVariables false
set_option linter.unusedSimpArgs false
namespace Go.Proofs.Ytakighadedgemaa
open Go.RowKit

def lenOf : Value → Nat
  | .slice _ n _ => n
  | _ => 0
theorem u64C_length (x : Int) : (u64C x).length = 1 := rfl
theorem u64_one (xs : List Int) : ∀ u, u ∈ xs.flatMap u64C → u.oneCell' = true := fun u hu => by
  obtain ⟨x, _, hx⟩ := List.mem_flatMap.1 hu
  simp [u64C] at hx
  subst hx
  rfl
theorem infoU : (Try.prog.info? 28).map (fun i => (i.zero, i.size, i.bytes)) = some (some (.int .u64 0), 1, 8) := by kernel_rfl
theorem cells_new1 (w : World) (c : Array Value) (t : TypeId) {xs : List Value} {b : Nat} (hb : b = w.heap.size) (hx : c.toList = xs) : ∀ (j : Nat) (u : Value), xs[j]? = some u → (w.alloc (.cells c t)).cell? ((⟨b, 0, none⟩ : Addr).add j) = some u := by
  intro j u hu
  subst hb
  have hadd : (⟨w.heap.size, 0, none⟩ : Addr).add j = ⟨w.heap.size, 0 + j, none⟩ := by unfold Addr.add; split <;> simp_all
  rw [hadd, cell_of_row (w.alloc _) w.heap.size _ c t (0, 0) (heap_alloc_new _ _), ← hu, ← hx, Nat.zero_add]
  simp
/-- the last cell of a row of numbers -/
theorem last_cell {w : World} {a : Option Addr} {m c : Nat} {ks : List Int} (h : FlatRow w 1 u64C a m c ks) (h0 : m ≠ 0) : ∃ b off, a = some ⟨b, off, none⟩ ∧ w.cell? ⟨b, off + (m - 1), none⟩ = some (.int .u64 (ks.getLast?.getD 0)) := by
  have hl := h.length
  obtain ⟨x, hx⟩ := get_of_lt ks (k := m - 1) (by omega)
  obtain ⟨b, off, ha, hc⟩ := h.at_ _ _ hx
  have := hc 0 _ rfl
  rw [Nat.mul_one, Nat.add_zero] at this
  refine ⟨b, off, ha, ?_⟩
  rw [this]
  have e : ks.getLast? = some x := by rw [List.getLast?_eq_getElem?, hl]; exact hx
  rw [e]
  rfl

set_option maxRecDepth 100000 in
set_option maxHeartbeats 4000000 in
theorem specSet (a : Option Addr) (n c : Nat) (ids : List Int) (w : World) (h : FlatRow w 1 u64C a n c ids) (hk : inU ids) (hn : n ≤ 2147483647) :
    Calls Try.prog 29 #[.slice a n c] w fun r w' => ∃ (v : Value) (ks : List Int), r = .returned v ∧ ks.Nodup ∧ (∀ x, x ∈ ks ↔ x ∈ ids) ∧ w'.ownsRow w.heap.size 28 1 v ks.length (ks.flatMap u64C) ∧ Ext w w' := by
  obtain ⟨i0, hi, hz0, hz1, hz2⟩ := info_parts infoU
  have hl := h.length
  have X := Lib.hid h
  have HK := Lib.hid hk
  have HL := Lib.hid hl
  clear h hk hl
  go_enter Try.func29, Try.ntmps29
  go_wp2
  go_loopw [3] (fun v wr => ∃ (ks : List Int), SetI ids ks ∧ wr.ownsRow w.heap.size 28 1 v ks.length (ks.flatMap u64C) ∧ Ext w wr) (fun v _ => n - lenOf v)
  case atStart => exact ⟨[], SetI.nil ids, World.ownsRow_nil _ _ _ _, Ext.refl _⟩
  case round =>
    obtain ⟨ks, hset, hown, hext⟩ := hrel
    obtain ⟨m, hm⟩ : ∃ m, m = ks.length := ⟨_, rfl⟩
    rw [← hm] at hown
    have hmn : m ≤ n := by have := hset.len; rw [HL.out] at this; omega
    obtain ⟨av, cv, rfl, hfl⟩ := FlatRow.of_owns u64C u64C_length (by decide) hown
    have HO := Lib.hid hown
    have HF := Lib.hid hfl
    have HS := Lib.hid hset
    have HM := Lib.hid hm
    clear hown hfl hset hm
    by_cases hlt : m < n
    · go_wp2
      go_loopw [4, 5, 15] (fun f le i wr2 => ∃ (j : Nat), j ≤ n ∧ i = .int .i64 j ∧ f = .bool (candF ks (ids.take j)).isSome ∧ le = .int .u64 ((candF ks (ids.take j)).getD 0) ∧ wr2 = wr) (fun _ _ i _ => n - (intOf i).toNat)
      case atStart => exact ⟨0, Nat.zero_le _, rfl, rfl, rfl, rfl⟩
      case round =>
        obtain ⟨j, hj, rfl, rfl, rfl, rfl⟩ := hrel
        by_cases hjn : j < n
        · obtain ⟨x, hy⟩ := get_of_lt ids (k := j) (by rw [HL.out]; exact hjn)
          obtain ⟨ab, off, rfl, hc⟩ := X.out.at_ j _ hy
          have c0 : wr.cell? ⟨ab, off + j, none⟩ = some (.int .u64 x) := by
            have := hc 0 _ rfl
            rw [Nat.mul_one, Nat.add_zero] at this
            rw [Below.cell hext (World.block_lt_of_cell? w _ this)]; exact this
          have hnx : candF ks (ids.take (j + 1)) = candS ks (candF ks (ids.take j)) x := by rw [take_succ_of hy, candF_snoc]
          have HNX := Lib.hid hnx
          clear hc hy hnx
          obtain ⟨cd, hcd⟩ : ∃ cd, cd = candF ks (ids.take j) := ⟨_, rfl⟩
          rw [← hcd]
          rw [← hcd] at HNX
          have HCD := Lib.hid hcd
          clear hcd
          obtain ⟨la, hla⟩ : ∃ la, la = ks.getLast?.getD 0 := ⟨_, rfl⟩
          -- which way the guards go
          by_cases hm0 : m = 0
          · have habv : abv ks x = true := by unfold abv; rw [← HM.out, hm0]; rfl
            have hmz : ((m : Int) == 0) = true := by rw [hm0]; rfl
            have HM0 := Lib.hid hm0
            clear hm0 hla
            rcases cd with _ | q
            · have NX := Lib.hid (show candF ks (ids.take (j + 1)) = some x by rw [HNX.out]; unfold candS; rw [habv]; rfl)
              clear habv
              go_wp2
              go_roundw
              case rel => exact ⟨j + 1, by omega, by go_num, by (rw [NX.out]; try rfl), by (rw [NX.out]; try rfl), trivial⟩
              case measure => simp [intOf]; omega
            · by_cases hq : x < q
              · have NX := Lib.hid (show candF ks (ids.take (j + 1)) = some x by rw [HNX.out]; unfold candS; rw [habv]; simp [hq])
                clear habv
                go_wp2
                go_roundw
                case rel => exact ⟨j + 1, by omega, by go_num, by (rw [NX.out]; try rfl), by (rw [NX.out]; try rfl), trivial⟩
                case measure => simp [intOf]; omega
              · have NX := Lib.hid (show candF ks (ids.take (j + 1)) = some q by rw [HNX.out]; unfold candS; rw [habv]; simp [hq])
                clear habv
                go_wp2
                go_roundw
                case rel => exact ⟨j + 1, by omega, by go_num, by (rw [NX.out]; try rfl), by (rw [NX.out]; try rfl), trivial⟩
                case measure => simp [intOf]; omega
          · obtain ⟨bl, ol, rfl, hlc⟩ := last_cell HF.out hm0
            rw [← hla] at hlc
            have hmz : ((m : Int) == 0) = false := by rw [beq_eq_false_iff_ne]; omega
            have j0 : IntKind.i64.wrap ((m : Int) - 1) = (m : Int) - 1 := by rw [IntKind.wrap_i64]; omega
            have j1 : (0 : Int) ≤ (m : Int) - 1 := by omega
            have j2 : (m : Int) - 1 < (m : Int) := by omega
            have j3 : ((m : Int) - 1).toNat = m - 1 := by omega
            have habv : abv ks x = decide (la < x) := by unfold abv; rw [← HM.out, ← hla]; simp [hm0]
            have HM0 := Lib.hid hm0
            clear hm0 hla
            by_cases hlx : la < x
            · rw [decide_eq_true hlx] at habv
              rcases cd with _ | q
              · have NX := Lib.hid (show candF ks (ids.take (j + 1)) = some x by rw [HNX.out]; unfold candS; rw [habv]; rfl)
                clear habv
                go_wp2
                go_roundw
                case rel => exact ⟨j + 1, by omega, by go_num, by (rw [NX.out]; try rfl), by (rw [NX.out]; try rfl), trivial⟩
                case measure => simp [intOf]; omega
              · by_cases hq : x < q
                · have NX := Lib.hid (show candF ks (ids.take (j + 1)) = some x by rw [HNX.out]; unfold candS; rw [habv]; simp [hq])
                  clear habv
                  go_wp2
                  go_roundw
                  case rel => exact ⟨j + 1, by omega, by go_num, by (rw [NX.out]; try rfl), by (rw [NX.out]; try rfl), trivial⟩
                  case measure => simp [intOf]; omega
                · have NX := Lib.hid (show candF ks (ids.take (j + 1)) = some q by rw [HNX.out]; unfold candS; rw [habv]; simp [hq])
                  clear habv
                  go_wp2
                  go_roundw
                  case rel => exact ⟨j + 1, by omega, by go_num, by (rw [NX.out]; try rfl), by (rw [NX.out]; try rfl), trivial⟩
                  case measure => simp [intOf]; omega
            · rw [decide_eq_false hlx] at habv
              have NX := Lib.hid (show candF ks (ids.take (j + 1)) = cd by rw [HNX.out]; unfold candS; rw [habv]; rfl)
              clear habv
              go_wp2
              go_roundw
              case rel => exact ⟨j + 1, by omega, by go_num, by (rw [NX.out]; try rfl), by (rw [NX.out]; try rfl), trivial⟩
              case measure => simp [intOf]; omega
        · obtain rfl : j = n := by omega
          rw [List.take_of_length_le (by rw [HL.out]; omega)]
          have HSE := Lib.hid (@SetI.none ids ks HS.out)
          have HMO := Lib.hid (show ∀ m : Int, candF ks ids = some m → SetI ids (ks ++ [m]) from fun m h => HS.out.more h)
          rcases hcf : candF ks ids with _ | q
          · have HCF := Lib.hid hcf
            clear hcf
            go_wp2
            refine bodyPost_ret (results_tmp rfl _ _ _) rfl ?_
            exact ⟨_, ks, rfl, HS.out.nodup, HSE.out HCF.out, by rw [← HM.out]; exact HO.out, hext⟩
          · have HCF := Lib.hid hcf
            clear hcf
            have E0 := hext
            go_wp2_with (first | (at_builtin; refine wpList_append_own _ rfl _ _ 22 rfl w.heap.size 28 i0 _ 1 8 Try.underlying22 hi hz0 hz1 hz2 rfl (by decide) _ _ _ rfl (HO.out.alloc _) ⟨wr.heap.size, 0, none⟩ 1 1 (u64C q) rfl rfl (cells_new1 _ _ _ rfl (by rfl)) (by simp [u64C, Value.oneCell']) (by unfold maxLen; omega) (by omega) (by simp; have := E0.size; omega) ?_; intro v2 w2 hown2 hgrow2 _; have E2 : Ext w w2 := Ext.grown (E0.alloc _) hgrow2 (fun j hj => (HO.out.lt j hj).1); obtain ⟨ad2, cc2, rfl⟩ := ownsRow_shape hown2; have HW2 := Lib.hid hown2; clear hown2 hgrow2) | fail)
            go_roundw
            case rel => exact ⟨ks ++ [q], HMO.out _ HCF.out, by rw [List.length_append, List.flatMap_append, ← HM.out]; exact HW2.out, E2⟩
            case measure => simp [lenOf]; omega
    · have HSF := Lib.hid (@SetI.full ids ks HS.out (by rw [HL.out, ← HM.out]; omega))
      go_wp2
      refine bodyPost_ret (results_tmp rfl _ _ _) rfl ?_
      exact ⟨_, ks, rfl, HS.out.nodup, HSF.out, by rw [← HM.out]; exact HO.out, hext⟩
end Go.Proofs.Ytakighadedgemaa
