/-
  SEAT b6619434a: SMALL NOTIONS THAT ALL FIVE LAWS SHARE: a world that has drawn; a row of bytes; the argument's reading as such a row.
-/
import Derived.Test.Qxb6619434aRows
import Derived.WalkKit
import Derived.ProofKit
import Derived.Below
import Derived.OpenShut
import Derived.Outline
import Derived.Deep.QuietTactic
import Derived.BigQuiet
namespace Go.Proofs.Qxb6619434a
open Go.RowKit

/-- Some draws have been made; nothing else has turned. -/
def Drew (w w' : World) : Prop := ∃ q, w' = w.drewN q
theorem Drew.refl (w : World) : Drew w w := ⟨0, rfl⟩
theorem Drew.more {w w' : World} (h : Drew w w') (q : Nat) : Drew w (w'.drewN q) := by
  obtain ⟨p, rfl⟩ := h
  exact ⟨p + q, World.drewN_drewN _ _ _⟩
theorem Drew.trans {a b c : World} (h : Drew a b) (k : Drew b c) : Drew a c := by
  obtain ⟨q, rfl⟩ := k
  exact h.more q
theorem Drew.heap {w w' : World} (h : Drew w w') : w'.heap = w.heap := by
  obtain ⟨q, rfl⟩ := h
  rfl
theorem Drew.cell {w w' : World} (h : Drew w w') (a : Addr) : w'.cell? a = w.cell? a := World.cell?_of_block (by rw [h.heap])
theorem Drew.below {w w' : World} (h : Drew w w') (B : Nat) : Below B w w' := by
  obtain ⟨q, rfl⟩ := h
  exact ⟨rfl, rfl, rfl, Nat.le_refl _, fun _ _ => rfl⟩

/-- The bytes 'zs' lie in the cells from ⟨b, off⟩ on. (A name of its own: the walk's simp does not look behind it.) -/
def Row (w : World) (b off : Nat) (zs : List Int) : Prop := ∀ t, t < zs.length → w.cell? ⟨b, off + t, none⟩ = some (.int .u8 (zs.getD t 0))
theorem Row.drew {w w' : World} {b off : Nat} {zs : List Int} (h : Row w b off zs) (k : Drew w w') : Row w' b off zs := fun t ht => (k.cell _).trans (h t ht)
theorem getD_drop (zs : List Int) (p t : Nat) : (zs.drop p).getD t 0 = zs.getD (p + t) 0 := by simp [List.getD]
theorem Row.drop {w : World} {b off : Nat} {zs : List Int} (h : Row w b off zs) (p : Nat) : Row w b (off + p) (zs.drop p) := fun t ht => by
  rw [getD_drop, Nat.add_assoc]
  exact h (p + t) (by simp at ht; omega)

theorem ret_bool {a b : Bool} (h : a = b) : Ending.returned (.bool a) = .returned (.bool b) := by rw [h]

/-- A slice of bytes that came in, not empty: its address is a plain place, its elements lie there. -/
theorem row_of_arg {w : World} {x : Addr} {len cap : Nat} {zs : List Int} (hlc : len ≤ cap) (hz : zs.length = cap) (hc : ∀ i, i < zs.length → w.cell? (x.add i) = some (.int .u8 (zs.getD i 0))) (h0 : 0 < len) :
    ∃ b off, x = ⟨b, off, none⟩ ∧ Row w b off (zs.take len) ∧ (zs.take len).length = len := by
  obtain ⟨b, off, rfl, h⟩ := ints_at hc (by omega)
  have hl : (zs.take len).length = len := by simp; omega
  refine ⟨b, off, rfl, fun t ht => ?_, hl⟩
  rw [hl] at ht
  rw [h t (by omega)]
  simp [List.getD, ht]

end Go.Proofs.Qxb6619434a
