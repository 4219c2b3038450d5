/-
  append of a whole row, nil let in: one law for both. Over any program.
-/
import Derived.Test.YtakighadedgemaaBase
import Derived.Test.YtakighadedgemaaSees
import Derived.Laws.AppendOwn
import Derived.Laws.AppendOwnNone
set_option linter.unusedVariables false
set_option linter.unusedSimpArgs false
namespace Go.Proofs.Ytakighadedgemaa
open Go.RowKit

theorem append_flat {α : Type} {P : Program} (w : World) {ops : Array Oper} {rest : List Oper} {o : Oper} {a : Act} {Q : Exit → Act → World → Prop} (hgd : o.guard = none) (s x : Operand) (t : TypeId)
    (ho : o.op = .call { callee := .builtin .append, args := #[s, x], argTypes := #[t, t] })
    (base : Nat) (e : TypeId) (i : TypeInfo) (z : Value) (size bytes : Nat) (ht : P.underlying t = some (.slice e)) (hi : P.info? e = some i) (hz : i.zero = some z)
    (hsize : i.size = size) (hby : i.bytes = bytes) (hzs : z.cells.size = size) (hsz : 0 < size)
    (v : Value) (n : Nat) (xs : List Value) (hs : a.eval s = v) (hown : w.ownsRow base e size v n xs)
    (ad : Option Addr) (m c : Nat) (cells : α → List Value) (hn : ∀ x, (cells x).length = size) (l : List α) (hx : a.eval x = .slice ad m c) (hrow : FlatRow w size cells ad m c l) (h1 : ∀ u ∈ l.flatMap cells, u.oneCell' = true)
    (h63 : n + m ≤ maxLen) (hbytes : (n + m) * bytes ≤ 140737488355328) (hbase : base ≤ w.heap.size)
    (h : ∀ v' w', w'.ownsRow base e size v' (n + m) (xs ++ l.flatMap cells) → w.grownBy w' v.ownBlock → wpList P ops Q rest (a.put o.dst v') w') : wpList P ops Q (o :: rest) a w := by
  rcases ad with _ | ad
  · obtain ⟨rfl, rfl⟩ := hrow.nil rfl
    have hl : l = [] := List.eq_nil_of_length_eq_zero hrow.length
    subst hl
    refine wpList_append_own_none hgd s x t ho base e i size ht hi v n xs hs hown hx ?_
    have := h v w
    simp only [Nat.add_zero, List.flatMap_nil, List.append_nil] at this
    exact this hown ⟨rfl, rfl, rfl, Nat.le_refl _, fun _ _ _ => rfl⟩
  · refine wpList_append_own w hgd s x t ho base e i z size bytes ht hi hz hsize hby hzs hsz v n xs hs hown ad m c (l.flatMap cells) hx (by rw [flatMap_length cells hn, hrow.length]) (hrow.newsAll hn hsz) h1 h63 hbytes hbase fun v' w' h2 h3 _ => h v' w' h2 h3
end Go.Proofs.Ytakighadedgemaa
