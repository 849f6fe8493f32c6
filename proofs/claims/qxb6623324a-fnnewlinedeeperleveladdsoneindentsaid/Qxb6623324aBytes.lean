/-
  SEAT b6623324a: BYTES OF THE CALL OWN, AND append ONTO THEM, whatever yields what is appended (a slice, a string).
-/
import Derived.Test.Qxb6623324aRows
import Derived.WalkKit
import Derived.ProofKit
import Derived.Below
import Derived.OpenShut
import Derived.Outline
import Derived.Deep.QuietTactic
import Derived.BigQuiet
import Derived.WalkSpells
import Derived.Laws.CopyOwn
import Derived.Deep.AppendSrc
import Derived.Deep.RegionLaw
import Derived.Deep.DeepCutAuto
namespace Go.Proofs.Qxb6623324a
open Go.RowKit

theorem Try.info5 : (Try.prog.info? 5).map (fun i => (i.zero, i.size, i.bytes)) = some (some (.int .u8 0), 1, 1) := by kernel_rfl
theorem size5 : (Try.prog.info? 5).map (·.size) = some 1 := by kernel_rfl

/-- Bytes as cells. -/
def bc (zs : List Int) : List Value := zs.map (Value.int .u8)
theorem bc_length (zs : List Int) : (bc zs).length = zs.length := by simp [bc]
theorem bc_app (xs ys : List Int) : bc xs ++ bc ys = bc (xs ++ ys) := by simp [bc]
theorem bc_one (zs : List Int) : ∀ u ∈ bc zs, u.oneCell' = true := ints_oneCell _ _

/-- A slice of bytes of the call's own, holding 'zs'. -/
def Own (w : World) (base : Nat) (v : Value) (zs : List Int) : Prop := w.ownsRow base 5 1 v zs.length (bc zs)

/-- 'append(v, x...)', v the call's own, x whatever yields bytes. -/
theorem run_append_bytes (w : World) (base : Nat) (tx ty : TypeId) (v : Value) (xs : List Int) (hown : Own w base v xs) (x : Value) (ys : List Int) (hsrc : Go.Src Try.prog 1 tx x ys.length (bc ys) w)
    (h63 : xs.length + ys.length ≤ 1073741824) (hbase : base ≤ w.heap.size) :
    ∃ v' w', (Builtin.append_ #[22, tx] ty #[v, x]).run Try.prog w = .ok v' w' ∧ Own w' base v' (xs ++ ys) ∧ w.grownBy w' v.ownBlock ∧ (v'.ownBlock = v.ownBlock ∨ v'.ownBlock = some w.heap.size) := by
  obtain ⟨i, hi, hz, hsize, hby⟩ := info_parts Try.info5
  have hsz1 : i.size = 1 := hsize
  have hsrc' : Go.Src Try.prog i.size tx x ys.length (bc ys) w := by rw [hsz1]; exact hsrc
  have hlen : (bc (xs ++ ys)).length = (xs ++ ys).length * 1 := by rw [bc_length, Nat.mul_one]
  have grown : ∀ (a : Option Addr) (n cap : Nat), v = .slice a n cap → n = xs.length → cap < xs.length + ys.length → (Builtin.firstCells i.size n (.slice a n cap)).run Try.prog w.drew = .ok (bc xs).toArray w.drew →
      ∃ v' w', (Builtin.append_ #[22, tx] ty #[v, x]).run Try.prog w = .ok v' w' ∧ Own w' base v' (xs ++ ys) ∧ w.grownBy w' v.ownBlock ∧ (v'.ownBlock = v.ownBlock ∨ v'.ownBlock = some w.heap.size) := by
    intro a n cap hv hn hc hf
    subst hv
    subst hn
    have hr := run_append_grow_src (P := Try.prog) w 22 tx ty 5 i (.int .u8 0) Try.underlying22 hi hz a xs.length cap (bc xs) hf x ys.length (bc ys) hsrc' hc (by omega)
      (by rw [hby]; exact growslice_fits (by omega) (by omega))
    refine ⟨_, _, hr, ?_, ⟨rfl, rfl, rfl, by simp, fun k hk _ => Below.heap_alloc w.drew _ k hk⟩, .inr rfl⟩
    have hge := grownCap_ge w (xs.length + ys.length) cap 5
    have hcm : grownCap w (xs.length + ys.length) cap 5 ≤ maxLen := grownCap_le_maxLen w _ cap 5 (by unfold maxLen; omega)
    have hl2 : (xs ++ ys).length = xs.length + ys.length := List.length_append
    unfold Own
    rw [hl2]
    refine ⟨by rw [bc_length, hl2, Nat.mul_one], .inr ⟨w.heap.size, _, _, rfl, hbase, heap_alloc_new w.drew _, hge, hcm, ?_, ?_⟩⟩
    · have hzc : (Value.int .u8 0).cells.size = 1 := rfl
      rw [Array.size_append, size_zeroCells, hzc, List.size_toArray, bc_app, bc_length, hl2]
      omega
    · rw [Array.toList_append, bc_app, Nat.mul_one]
      have : (bc (xs ++ ys)).length = xs.length + ys.length := by rw [bc_length, hl2]
      rw [← this]
      exact List.take_left
  rcases hown.2 with ⟨hv, hn⟩ | ⟨g, cap, cur, hv, hbg, hg, hnc, hcm, hcs, htake⟩
  · have hx : xs = [] := List.eq_nil_of_length_eq_zero hn
    subst hx
    by_cases hy : ys.length = 0
    · have hy' : ys = [] := List.eq_nil_of_length_eq_zero hy
      subst hy'
      subst hv
      refine ⟨.slice none 0 0, w, ?_, World.ownsRow_nil w base 5 1, ⟨rfl, rfl, rfl, Nat.le_refl _, fun _ _ _ => rfl⟩, .inl rfl⟩
      have hl0 : ∀ w' : World, (Builtin.lenOf x).run Try.prog w' = .ok 0 w' := hsrc'.len
      have hc0 : (Builtin.firstCells i.size 0 x).run Try.prog w = .ok #[] w := hsrc'.cells
      rcases hsrc'.kind with ⟨e', hk⟩ | hk <;> simp [Builtin.append_, run_underlying Try.underlying22, run_underlying hk, sizeOf, typeInfo, hi, hl0, hc0]
    · refine grown none 0 0 hv rfl (by simp; omega) ?_
      exact run_firstCells_none w.drew i.size 0 0 0
  · by_cases hroom : xs.length + ys.length ≤ cap
    · subst hv
      have hst := run_storeCells_at Try.prog g (xs.length * i.size) 5 (bc ys) 0 cur w hg (by rw [bc_length, hsz1, hcs]; omega) (bc_one ys)
      have hr : (Builtin.append_ #[22, tx] ty #[.slice (some ⟨g, 0, none⟩) xs.length cap, x]).run Try.prog w = .ok (.slice (some ⟨g, 0, none⟩) (xs.length + ys.length) cap) (w.setRow g (cur.toList.take (xs.length * i.size) ++ bc ys ++ cur.toList.drop (xs.length * i.size + (bc ys).length)).toArray) := by
        simp only [Nat.add_zero] at hst
        rcases hsrc'.kind with ⟨e', hk⟩ | hk <;> simp [Builtin.append_, run_underlying Try.underlying22, run_underlying hk, sizeOf, typeInfo, hi, hsrc'.len, hroom, hsrc'.cells, Addr.add_lit, hst]
      refine ⟨_, _, hr, ?_, ⟨rfl, rfl, rfl, by simp, fun k _ hk => setRow_other w g k _ (fun e => hk (by simp [Value.ownBlock, e]))⟩, .inl rfl⟩
      have hl2 : (xs ++ ys).length = xs.length + ys.length := List.length_append
      unfold Own
      rw [hl2]
      refine ⟨by rw [bc_length, hl2, Nat.mul_one], .inr ⟨g, cap, _, rfl, hbg, setRow_heap w g cur _ 5 _ hg, hroom, hcm, ?_, ?_⟩⟩
      · rw [hsz1]
        simp [bc]
        omega
      · rw [hsz1]
        rw [htake, bc_app, Nat.mul_one]
        have : (bc (xs ++ ys)).length = xs.length + ys.length := by rw [bc_length, hl2]
        rw [← this]
        exact List.take_left
    · refine grown (some ⟨g, 0, none⟩) xs.length cap hv rfl (by omega) ?_
      have holds : ∀ j u, (bc xs)[j]? = some u → w.drew.cell? ((⟨g, 0, none⟩ : Addr).add j) = some u := by
        intro j u hj
        exact hown.cells (g := g) (by rw [hv]; rfl) j u hj
      rw [hsz1]
      exact run_firstCells_some w.drew 1 xs.length ⟨g, 0, none⟩ xs.length cap (bc xs) (by rw [bc_length, Nat.mul_one]) holds

/-- .. as a law of the walk. -/
theorem wpList_append_bytes {w : World} {ops : Array Oper} {rest : List Oper} {o : Oper} {a : Act} {Q : Exit → Act → World → Prop} (hgd : o.guard = none) (s x : Operand) (tx : TypeId)
    (ho : o.op = .call { callee := .builtin .append, args := #[s, x], argTypes := #[22, tx] }) (base : Nat) (v : Value) (xs : List Int) (hs : a.eval s = v) (hown : Own w base v xs) (xv : Value) (hx : a.eval x = xv)
    (ys : List Int) (hsrc : Go.Src Try.prog 1 tx xv ys.length (bc ys) w) (h63 : xs.length + ys.length ≤ 1073741824) (hbase : base ≤ w.heap.size)
    (h : ∀ v' w', Own w' base v' (xs ++ ys) → w.grownBy w' v.ownBlock → (v'.ownBlock = v.ownBlock ∨ v'.ownBlock = some w.heap.size) → wpList Try.prog ops Q rest (a.put o.dst v') w') : wpList Try.prog ops Q (o :: rest) a w := by
  refine wpList_plain hgd fun K hK => ?_
  obtain ⟨v', w', hrun, h1, h2, h3⟩ := run_append_bytes w base tx o.type v xs hown xv ys hsrc h63 hbase
  unfold Oper.wp
  simp [execOp, ho, resolve, invoke, builtin, hs, hx, hrun, Result.andThen]
  exact hK _ _ (h v' w' h1 h2 h3)
/-- .. as one step of a region that draws its order. -/
theorem step_append_bytes {w : World} {ops : Array Oper} {o : Oper} {a : Act} {K : Act → World → Prop} {Q : Exit → Act → World → Prop} {E : Prop} (hgd : o.guard = none) (s x : Operand) (tx : TypeId)
    (ho : o.op = .call { callee := .builtin .append, args := #[s, x], argTypes := #[22, tx] }) (base : Nat) (v : Value) (xs : List Int) (hs : a.eval s = v) (hown : Own w base v xs) (xv : Value) (hx : a.eval x = xv)
    (ys : List Int) (hsrc : Go.Src Try.prog 1 tx xv ys.length (bc ys) w) (h63 : xs.length + ys.length ≤ 1073741824) (hbase : base ≤ w.heap.size)
    (h : ∀ v' w', Own w' base v' (xs ++ ys) → w.grownBy w' v.ownBlock → (v'.ownBlock = v.ownBlock ∨ v'.ownBlock = some w.heap.size) → K (a.put o.dst v') w') :
    if Region.wanted o (yielded ops a.tmps) = true then Oper.wp Try.prog o a w K Q else E := by
  have hw : Region.wanted o (yielded ops a.tmps) = true := by simp [Region.wanted, hgd]
  rw [if_pos hw]
  obtain ⟨v', w', hrun, h1, h2, h3⟩ := run_append_bytes w base tx o.type v xs hown xv ys hsrc h63 hbase
  unfold Oper.wp
  simp [execOp, ho, resolve, invoke, builtin, hs, hx, hrun, Result.andThen]
  exact h v' w' h1 h2 h3

/-- A string's bytes. -/
def sb (s : ByteArray) : List Int := s.data.toList.map fun b => (b.toNat : Int)
theorem sb_length (s : ByteArray) : (sb s).length = s.size := by
  unfold sb
  rw [List.length_map, Array.length_toList]
  rfl
theorem src_string (w : World) (s : ByteArray) : Go.Src Try.prog 1 9 (.string s) (sb s).length (bc (sb s)) w := by
  have h := Go.Src.ofString (P := Try.prog) w (tx := 9) Try.underlying9 s
  rw [sb_length]
  have e : byteCells s = bc (sb s) := by simp [byteCells, bc, sb, List.map_map]
  rw [e] at h
  exact h

end Go.Proofs.Qxb6623324a
