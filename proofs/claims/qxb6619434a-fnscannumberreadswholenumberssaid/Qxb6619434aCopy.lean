/-
  SEAT b6619434a: 'c := make([]byte, len(b)); copy(c, b)': the copy that the laws make of an argument before they use it.
-/
import Derived.Test.Qxb6619434aBase
import Derived.Laws.CopyOwn
import Derived.WalkSpells
namespace Go.Proofs.Qxb6619434a
open Go.RowKit

theorem Try.info5 : (Try.prog.info? 5).map (fun i => (i.zero, i.size, i.bytes)) = some (some (.int .u8 0), 1, 1) := by kernel_rfl

/-- 'make([]byte, n)' has laid a block of n cells. -/
theorem made_row {w : World} {base g n : Nat} {xs : List Value} (h : w.ownsRow base 5 1 (.slice (some ⟨g, 0, none⟩) n n) n xs) : ∃ cur : List Value, w.heap[g]? = some (.cells cur.toArray 5 (0, 0)) ∧ cur.length = n := by
  obtain ⟨_, h2⟩ := h
  rcases h2 with ⟨h2, _⟩ | ⟨g', cap, cur, hv, hg, hh, _, _, hs, _⟩
  · cases h2
  · simp only [Value.slice.injEq, Option.some.injEq, Addr.mk.injEq] at hv
    obtain ⟨⟨rfl, _⟩, _, rfl⟩ := hv
    exact ⟨cur.toList, by simpa using hh, by simpa using hs⟩

/-- .. and 'copy' has filled it. -/
theorem copied_row {w : World} {g : Nat} {cur : List Value} {zs : List Int} (h : w.heap[g]? = some (.cells (splice cur 0 (zs.map (Value.int .u8))).toArray 5 (0, 0))) (hl : cur.length = zs.length) : Row w g 0 zs := by
  have e : splice cur 0 (zs.map (Value.int .u8)) = zs.map (Value.int .u8) := by
    simp [splice, hl]
  rw [e] at h
  intro t ht
  simp [World.cell?, h, List.getD, ht]

theorem size5 : (Try.prog.info? 5).map (·.size) = some 1 := by kernel_rfl

/-- The bytes 'zs' lie from address x on (of whatever make x is). -/
def Src (w : World) (x : Addr) (zs : List Int) : Prop := ∀ j v, (zs.map (Value.int .u8))[j]? = some v → w.cell? (x.add j) = some v
theorem Src.below {w w' : World} {x : Addr} {zs : List Int} (h : Src w x zs) (hb : Below w.heap.size w w') : Src w' x zs := fun j v hj =>
  (hb.cell (p := x.add j) (World.block_lt_of_cell? w _ (h j v hj))).trans (h j v hj)
theorem row_src {w : World} {b off : Nat} {zs : List Int} (h : Row w b off zs) : Src w ⟨b, off, none⟩ zs := by
  intro j v hj
  have hlt : j < zs.length := by
    have := (List.getElem?_eq_some_iff.1 hj).1
    simpa using this
  rw [Addr.add_lit, h j hlt]
  rw [List.getElem?_map, List.getElem?_eq_getElem hlt] at hj
  simp only [Option.map_some, Option.some.injEq] at hj
  rw [← hj]
  simp [List.getD, hlt]
theorem Row.below {w w' : World} {b off B : Nat} {zs : List Int} (h : Row w b off zs) (hb : Below B w w') (hlt : b < B) : Row w' b off zs := fun t ht => (hb.cell (p := ⟨b, off + t, none⟩) hlt).trans (h t ht)
/-- An argument as such a source; its bytes are bytes. -/
theorem src_of_arg {w : World} {x : Addr} {len cap : Nat} {zs : List Int} (hlc : len ≤ cap) (hz : zs.length = cap) (hc : ∀ i, i < zs.length → w.cell? (x.add i) = some (.int .u8 (zs.getD i 0)))
    (hwf : ∀ n ∈ zs, (Lit.int .u8 n).wf = true) : Src w x (zs.take len) ∧ (zs.take len).length = len ∧ ∀ t, t < (zs.take len).length → 0 ≤ (zs.take len).getD t 0 ∧ (zs.take len).getD t 0 ≤ 255 := by
  have hl : (zs.take len).length = len := by simp; omega
  refine ⟨?_, hl, ?_⟩
  · intro j v hj
    have hlt : j < (zs.take len).length := by
      have := (List.getElem?_eq_some_iff.1 hj).1
      simpa using this
    have h1 : j < len := by omega
    rw [hc j (by omega)]
    rw [List.getElem?_map, List.getElem?_eq_getElem hlt] at hj
    simp only [Option.map_some, Option.some.injEq] at hj
    rw [← hj]
    simp [List.getD, show j < zs.length by omega]
  · intro t ht
    rw [hl] at ht
    have hm : zs.getD t 0 ∈ zs := by
      have h1 : t < zs.length := by omega
      simp [List.getD, h1]
    have hb := bounds_u8 (hwf _ hm)
    have e : (zs.take len).getD t 0 = zs.getD t 0 := by simp [List.getD, ht]
    rw [e]
    exact hb

/-- 'copy(c, b)': c a row of the call's own of as many cells, b a source of bytes. -/
theorem wpList_copy_bytes {w : World} {ops : Array Oper} {rest : List Oper} {o : Oper} {a : Act} {Q : Exit → Act → World → Prop} (hgd : o.guard = none) (d s : Operand)
    (ho : o.op = .call { callee := .builtin .copy, args := #[d, s], argTypes := #[22, 22] }) (g : Nat) (x : Addr) (c : Nat) (zs : List Int) (cur : List Value)
    (hd : a.eval d = .slice (some ⟨g, 0, none⟩) zs.length zs.length) (hs : a.eval s = .slice (some x) zs.length c)
    (hg : w.heap[g]? = some (.cells cur.toArray 5 (0, 0))) (hl : cur.length = zs.length) (hsrc : Src w x zs) (B : Nat) (w0 : World) (hb : Below B w0 w) (hBg : B ≤ g)
    (h : ∀ w', Row w' g 0 zs → Below B w0 w' → g < w'.heap.size → wpList Try.prog ops Q rest (a.put o.dst (.int .i64 zs.length)) w') : wpList Try.prog ops Q (o :: rest) a w := by
  refine wpList_copy_splice hgd d s 22 22 ho 5 Try.underlying22 size5 _ _ _ _ _ _ hd hs g 0 cur 5 hg (zs.map (Value.int .u8)) (by simp) (fun _ => ⟨rfl, _, rfl, hsrc⟩) (by simp [hl]) (ints_oneCell _ _) B w0 hb hBg ?_
  intro w' hg' hb'
  have hlt : g < w'.heap.size := (Array.getElem?_eq_some_iff.1 hg'.out).1
  have := h w' (copied_row hg'.out hl) hb' hlt
  simpa [goInt] using this

end Go.Proofs.Qxb6619434a
