/-
  SEAT b6619434a: 's := make([]byte, 0, n)' and 's = append(s, x...)' within the capacity.
-/
import Derived.Test.Qxb6619434aCopy
namespace Go.Proofs.Qxb6619434a
open Go.RowKit

/-- A row that the call owns. -/
theorem own_row {w : World} {base g n cap : Nat} {zs : List Int} (h : w.ownsRow base 5 1 (.slice (some ⟨g, 0, none⟩) n cap) n (zs.map (Value.int .u8))) : Row w g 0 zs := by
  intro t ht
  have := h.cells (g := g) rfl t (.int .u8 (zs.getD t 0)) (by simp [List.getD, ht])
  rwa [Addr.add_lit] at this
theorem Row.grown {w w' : World} {b off : Nat} {row : Option Nat} {zs : List Int} (h : Row w b off zs) (hg : w.grownBy w' row) (hne : some b ≠ row) : Row w' b off zs := fun t ht =>
  hg.cell (h t ht) (by exact hne)
/-- The cells of a row as an append asks for them. -/
theorem row_news {w : World} {ao : Option Addr} {b off : Nat} {zs : List Int} (h : Row w b off zs) (ha : 0 < zs.length → ao = some ⟨b, off, none⟩) :
    ∀ ad, ao = some ad → ∀ j u, (zs.map (Value.int .u8))[j]? = some u → w.cell? (ad.add j) = some u := by
  intro ad had j u hj
  have hlt : j < zs.length := by
    have := (List.getElem?_eq_some_iff.1 hj).1
    simpa using this
  rw [ha (by omega)] at had
  obtain rfl := Option.some.inj had
  exact row_src h j u hj

/-- 'make([]byte, 0, n)' -/
theorem wpList_make_bytes (w : World) {ops : Array Oper} {rest : List Oper} {o : Oper} {a : Act} {Q : Exit → Act → World → Prop}
    (hg : o.guard = none) (l c : Operand) (hop : o.op = Op.makeSlice 22 l c) (kl kc : IntKind) (C : Int) (n : Nat) (hl : a.eval l = .int kl 0) (hc : a.eval c = .int kc C) (hC : C = (n : Int)) (hn : n ≤ 281474976710656)
    (hK : ∀ w', w'.ownsRow w.heap.size 5 1 (.slice (some ⟨w.heap.size, 0, none⟩) 0 n) 0 (([] : List Int).map (Value.int .u8)) → w.grownBy w' none → wpList Try.prog ops Q rest (a.put o.dst (.slice (some ⟨w.heap.size, 0, none⟩) 0 n)) w') :
    wpList Try.prog ops Q (o :: rest) a w := by
  obtain ⟨i0, hi, hz0, hz1, hz2⟩ := info_parts Try.info5
  exact wpList_make_own w hg l c 22 hop w.heap.size 5 i0 (.int .u8 0) 1 Try.underlying22 hi hz0 hz1 kl kc C n hl hc hC (by rw [hz2]; omega) (by unfold maxLen; omega) (Nat.le_refl _) hK

/-- 'append(s, x...)' within the capacity: s holds 'pre', x holds 'news'. -/
theorem wpList_append_bytes (w : World) {ops : Array Oper} {rest : List Oper} {o : Oper} {a : Act} {Q : Exit → Act → World → Prop}
    (hg : o.guard = none) (s x : Operand) (hop : o.op = Op.call { callee := Callee.builtin Builtin.append, args := #[s, x], argTypes := #[22, 22] })
    (base g k cap : Nat) (pre news : List Int) (hs : a.eval s = .slice (some ⟨g, 0, none⟩) k cap) (hown : w.ownsRow base 5 1 (.slice (some ⟨g, 0, none⟩) k cap) k (pre.map (Value.int .u8)))
    (ao : Option Addr) (m c : Nat) (hx : a.eval x = .slice ao m c) (hm : news.length = m) (hnone : ao = none → m = 0 ∧ c = 0) (b off : Nat) (hrow : Row w b off news) (ha : 0 < news.length → ao = some ⟨b, off, none⟩) (hfit : k + m ≤ cap)
    (hK : ∀ w', w'.ownsRow base 5 1 (.slice (some ⟨g, 0, none⟩) (k + m) cap) (k + m) ((pre ++ news).map (Value.int .u8)) → w.grownBy w' (some g) → wpList Try.prog ops Q rest (a.put o.dst (.slice (some ⟨g, 0, none⟩) (k + m) cap)) w') :
    wpList Try.prog ops Q (o :: rest) a w := by
  obtain ⟨i0, hi, hz0, hz1, hz2⟩ := info_parts Try.info5
  refine wpList_append_fits_any w hg s x 22 hop base 5 i0 1 Try.underlying22 hi hz1 g k cap _ hs hown ao m c (news.map (Value.int .u8)) hx (by simp [hm]) hnone (row_news hrow ha) (ints_oneCell _ _) hfit ?_
  intro w' h1 h2
  rw [← List.map_append] at h1
  exact hK w' h1 h2

end Go.Proofs.Qxb6619434a
