/-
  SEAT b6623294a: CONTRACTS: zzBytes (4), ZZNewPyLexer (5), ZZPeekAt (6), ZZPyLexerPos (7), peekAt (8).
-/
import Derived.Test.Qxb6623294aRows
import Derived.WalkKit
import Derived.ProofKit
import Derived.Below
import Derived.Outline
import Derived.Deep.QuietTactic
import Derived.BigQuiet
import Derived.WalkSpells
namespace Go.Proofs.Qxb6623294a
open Go.RowKit

/-- Some draws have been made; nothing else has turned. -/
def Drew (w w' : World) : Prop := ∃ q, w' = w.drewN q
theorem Drew.refl (w : World) : Drew w w := ⟨0, rfl⟩
theorem Drew.more {w w' : World} (h : Drew w w') (q : Nat) : Drew w (w'.drewN q) := by
  obtain ⟨p, rfl⟩ := h
  exact ⟨p + q, World.drewN_drewN _ _ _⟩
theorem Drew.cell {w w' : World} (h : Drew w w') (a : Addr) : w'.cell? a = w.cell? a := by
  obtain ⟨q, rfl⟩ := h
  rfl
theorem Drew.size {w w' : World} (h : Drew w w') : w'.heap.size = w.heap.size := by
  obtain ⟨q, rfl⟩ := h
  rfl
theorem Drew.grown {W w w' : World} (h : Drew w w') (g : Grown W w) : Grown W w' := by
  obtain ⟨q, rfl⟩ := h
  exact g

/-- The byte at place k, or 0. -/
def byteAt (s : ByteArray) (k : Nat) : Int := if h : k < s.size then ((s[k]'h).toNat : Int) else 0
theorem byteAt_in {s : ByteArray} {k : Nat} (h : k < s.size) : byteAt s k = ((s[k]'h).toNat : Int) := dif_pos h
theorem byteAt_out {s : ByteArray} {k : Nat} (h : ¬ k < s.size) : byteAt s k = 0 := dif_neg h
theorem ret_int {k : IntKind} {a b : Int} (h : a = b) : Ending.returned (.int k a) = .returned (.int k b) := by rw [h]

def PeekOut (s : ByteArray) (k : Nat) (w : World) (e : Ending) (w' : World) : Prop := e = .returned (.int .u8 (byteAt s k)) ∧ Drew w w'
theorem peek_any (b o : Nat) (s : ByteArray) (pos i : Nat) (w : World) (_hs : s.size ≤ 2097152) (hsum : pos + i ≤ 9223372036854775807)
    (h0 : w.cell? ⟨b, o, none⟩ = some (.string s)) (h1 : w.cell? ⟨b, o + 1, none⟩ = some (.int .i64 pos)) :
    Calls Try.prog 8 #[.pointer (some ⟨b, o, none⟩), .int .i64 i] w (PeekOut s (pos + i) w) := by
  obtain ⟨t, ht⟩ : ∃ t : Nat, t = pos + i := ⟨_, rfl⟩
  rw [← ht]
  have htb : t ≤ 9223372036854775807 := by omega
  have e1 : (pos : Int) + (i : Int) = (t : Int) := by omega
  have e2 : IntKind.i64.wrap (t : Int) = (t : Int) := IntWalk.i64_in _ (by omega)
  clear ht
  by_cases hlt : t < s.size
  · have HB : Hid (byteAt s t = ((s[t]'hlt).toNat : Int)) := byteAt_in hlt
    go_enter Try.func8, Try.ntmps8
    go_wp2
    go_quiet (fail)
    go_wp2
    go_quiet (fail)
    go_wp2
    go_ret
    exact ⟨ret_int HB.out.symm, ((Drew.refl _).more _).more _⟩
  · have HB : Hid (byteAt s t = 0) := byteAt_out hlt
    go_enter Try.func8, Try.ntmps8
    go_wp2
    go_quiet (fail)
    go_wp2
    go_ret
    exact ⟨ret_int HB.out.symm, (Drew.refl _).more _⟩

theorem peek_zz (b o : Nat) (s : ByteArray) (pos i : Nat) (w : World) (hs : s.size ≤ 2097152) (hsum : pos + i ≤ 9223372036854775807)
    (h0 : w.cell? ⟨b, o, none⟩ = some (.string s)) (h1 : w.cell? ⟨b, o + 1, none⟩ = some (.int .i64 pos)) :
    Calls Try.prog 6 #[.pointer (some ⟨b, o, none⟩), .int .i64 i] w (PeekOut s (pos + i) w) := by
  go_enter Try.func6, Try.ntmps6
  go_wp2_with fail
  refine (peek_any b o s pos i w hs hsum h0 h1).mono ?_
  rintro e w' ⟨rfl, hw⟩
  clear h0 h1
  go_wp2
  go_ret
  exact ⟨rfl, hw⟩
theorem pos_zz (b o : Nat) (pos : Int) (w : World) (h1 : w.cell? ⟨b, o + 1, none⟩ = some (.int .i64 pos)) :
    Calls Try.prog 7 #[.pointer (some ⟨b, o, none⟩)] w fun e w' => e = .returned (.int .i64 pos) ∧ w = w' := by
  go_enter Try.func7, Try.ntmps7
  go_wp2
  go_ret
  exact ⟨rfl, rfl⟩
theorem new_zz (s : ByteArray) (pos d : Int) (al bk : Bool) (k : Int) (t : ByteArray) (em : Bool) (w : World) :
    Calls Try.prog 5 #[.string s, .int .i64 pos, .int .i64 d, .bool al, .bool bk, .int .u8 k, .string t, .bool em] w fun e w' => e = .returned (.pointer (some ⟨w.heap.size, 0, none⟩)) ∧ w' = w.alloc (.cells #[.string s, .int .i64 pos, .int .i64 d, .bool al, .bool bk, .int .u8 k, .string t, .bool em] 31) := by
  go_enter Try.func5, Try.ntmps5
  go_wp2
  go_ret
  exact ⟨rfl, rfl⟩

/-- A lexer has been made: a new block; its first two cells. -/
structure NewW (s : ByteArray) (pos : Int) (w w' : World) : Prop where
  grown : ∀ W, Grown W w → Grown W w'
  size : w'.heap.size = w.heap.size + 1
  old : ∀ a : Addr, a.block < w.heap.size → w'.cell? a = w.cell? a
  src : w'.cell? ⟨w.heap.size, 0, none⟩ = some (.string s)
  pos : w'.cell? ⟨w.heap.size, 0 + 1, none⟩ = some (.int .i64 pos)
theorem new_out (s : ByteArray) (pos d : Int) (al bk : Bool) (k : Int) (t : ByteArray) (em : Bool) (w : World) :
    Calls Try.prog 5 #[.string s, .int .i64 pos, .int .i64 d, .bool al, .bool bk, .int .u8 k, .string t, .bool em] w fun e w' => e = .returned (.pointer (some ⟨w.heap.size, 0, none⟩)) ∧ NewW s pos w w' := by
  refine (new_zz s pos d al bk k t em w).mono ?_
  rintro e w' ⟨rfl, rfl⟩
  refine ⟨rfl, fun W h => h.alloc _ _, by simp, ?_, by simp, by simp⟩
  intro a ha
  exact World.cell?_of_block (Below.heap_alloc _ _ _ ha)

theorem bytes4_yes (a0 : ByteArray) (a1 a2 : Int) (a3 a4 : Bool) (a5 : Int) (a6 : ByteArray) (a7 : Bool) (a8 : Int) (a9 : ByteArray) (w : World) (h : a0.size + a6.size + a9.size ≤ 1048576) :
    Calls Try.prog 4 #[.string a0, .int .i64 a1, .int .i64 a2, .bool a3, .bool a4, .int .u8 a5, .string a6, .bool a7, .int .i64 a8, .string a9] w fun e w' => e = .returned (.bool true) ∧ w = w' := by
  have g0 : a0.size ≤ 1048576 := by omega
  have g6 : a6.size ≤ 1048576 := by omega
  have g9 : a9.size ≤ 1048576 := by omega
  have g06 : a0.size + a6.size ≤ 1048576 := by omega
  go_enter Try.func4, Try.ntmps4
  go_wp2
  go_ret
  exact ⟨rfl, rfl⟩
theorem bytes4_no (a0 : ByteArray) (a1 a2 : Int) (a3 a4 : Bool) (a5 : Int) (a6 : ByteArray) (a7 : Bool) (a8 : Int) (a9 : ByteArray) (w : World) (h : 1048576 < a0.size + a6.size + a9.size)
    (b0 : a0.size ≤ 9223372036854775807) (b6 : a6.size ≤ 9223372036854775807) (b9 : a9.size ≤ 9223372036854775807) :
    Calls Try.prog 4 #[.string a0, .int .i64 a1, .int .i64 a2, .bool a3, .bool a4, .int .u8 a5, .string a6, .bool a7, .int .i64 a8, .string a9] w fun e w' => e = .returned (.bool false) ∧ w = w' := by
  by_cases g0 : a0.size ≤ 1048576
  · by_cases g6 : a6.size ≤ 1048576
    · by_cases g06 : a0.size + a6.size ≤ 1048576
      · by_cases g9 : a9.size ≤ 1048576
        · go_enter Try.func4, Try.ntmps4
          go_wp2
          go_ret
          exact ⟨rfl, rfl⟩
        · go_enter Try.func4, Try.ntmps4
          go_wp2
          go_ret
          exact ⟨rfl, rfl⟩
      · go_enter Try.func4, Try.ntmps4
        go_wp2
        go_ret
        exact ⟨rfl, rfl⟩
    · go_enter Try.func4, Try.ntmps4
      go_wp2
      go_ret
      exact ⟨rfl, rfl⟩
  · go_enter Try.func4, Try.ntmps4
    go_wp2
    go_ret
    exact ⟨rfl, rfl⟩

theorem byteAt_app (p s : ByteArray) (k : Nat) : byteAt (p ++ s) (p.size + k) = byteAt s k := by
  unfold byteAt
  by_cases h : k < s.size
  · rw [dif_pos h, dif_pos (by rw [ByteArray.size_append]; omega)]
    rw [ByteArray.getElem_append_right (by omega)]
    simp
  · rw [dif_neg h, dif_neg (by rw [ByteArray.size_append]; omega)]

end Go.Proofs.Qxb6623294a
