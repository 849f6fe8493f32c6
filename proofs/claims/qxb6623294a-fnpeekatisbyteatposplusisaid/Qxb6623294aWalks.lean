/-
  SEAT b6623294a: THE WALKS OF FnPeekAtIsByteAtPosPlusI (3).
-/
import Derived.Test.Qxb6623294aParts
namespace Go.Proofs.Qxb6623294a
open Go.RowKit

theorem extract_at (s : ByteArray) (pos i : Nat) (hp : pos < s.size) (h : i < s.size - pos) : ∀ h' : i < (s.extract pos s.size).size, ((((s.extract pos s.size)[i]'h').toNat : Nat) : Int) = byteAt s (pos + i) := by
  intro h'
  rw [byteAt_in (by omega : pos + i < s.size)]
  rw [ByteArray.getElem_extract]

set_option maxHeartbeats 4000000 in
set_option maxRecDepth 100000 in
theorem law_main (a0 : ByteArray) (pos : Nat) (a2 : Int) (a3 a4 : Bool) (a5 : Int) (a6 : ByteArray) (a7 : Bool) (i : Nat) (a9 : ByteArray) (w : World) (hsum : a0.size + a6.size + a9.size ≤ 1048576)
    (hb2 : a9.size + pos + i ≤ 9223372036854775807) :
    Calls Try.prog 3 #[.string a0, .int .i64 pos, .int .i64 a2, .bool a3, .bool a4, .int .u8 a5, .string a6, .bool a7, .int .i64 i, .string a9] w fun e w' => e = .returned (.bool true) ∧ Grown w w' := by
  have g0 : a0.size ≤ 1048576 := by omega
  have g9 : a9.size ≤ 1048576 := by omega
  have hb1 : a9.size + pos ≤ 9223372036854775807 := by omega
  have hcat : (a9 ++ a0).size ≤ 2097152 := by rw [ByteArray.size_append]; omega
  obtain ⟨t, ht⟩ : ∃ t : Nat, t = pos + i := ⟨_, rfl⟩
  obtain ⟨u, hu⟩ : ∃ u : Nat, u = a9.size + pos := ⟨_, rfl⟩
  obtain ⟨B, hB⟩ : ∃ B : Int, B = byteAt a0 (pos + i) := ⟨_, rfl⟩
  have HB1 : Hid (byteAt a0 (pos + i) = B) := hB.symm
  have HB2 : Hid (byteAt a0 (t + 0) = B) := show _ = _ from by rw [ht, hB]; rfl
  have HB3 : Hid (byteAt (a9 ++ a0) (u + i) = B) := show _ = _ from by rw [hu, Nat.add_assoc, byteAt_app, hB]
  have e1 : (pos : Int) + (i : Int) = (t : Int) := by omega
  have e3 : (a9.size : Int) + (pos : Int) = (u : Int) := by omega
  have tb : t ≤ 9223372036854775807 := by omega
  have ub : u + i ≤ 9223372036854775807 := by omega
  by_cases hA : pos < a0.size
  · by_cases hC : i < a0.size - pos
    · have hW : ∀ h' : i < (a0.extract pos a0.size).size, ((((a0.extract pos a0.size)[i]'h').toNat : Nat) : Int) = B := by rw [hB]; exact extract_at a0 pos i hA hC
      clear hB ht hu
      go_enter Try.func3, Try.ntmps3
      go_wp2_with (go_at_call 4; refine (bytes4_yes _ _ _ _ _ _ _ _ _ _ _ hsum).mono ?_; rintro e w' ⟨rfl, rfl⟩)
      refine (new_out _ _ _ _ _ _ _ _ _).mono ?_
      rintro e w1 ⟨rfl, hn1⟩
      have c1 := hn1.src
      have c2 := hn1.pos
      have G1 := hn1.grown w (Grown.refl w)
      have z1 := hn1.size
      have Z1 : Hid (w1.heap.size = w.heap.size + 1) := z1
      clear hn1 z1
      go_wp2_with fail
      refine (peek_zz w.heap.size 0 a0 pos i w1 (by omega) (by omega) c1 c2).mono ?_
      rintro e w2 ⟨rfl, hd2⟩
      rw [HB1.out]
      have P2 : Hid (w2.cell? ⟨w.heap.size, 0 + 1, none⟩ = some (.int .i64 pos)) := (hd2.cell _).trans c2
      have G2 := hd2.grown G1
      have Z2 : Hid (w2.heap.size = w.heap.size + 1) := hd2.size.trans Z1.out
      clear c1 c2 hd2 G1 Z1
      go_wp2_with fail
      refine (new_out _ _ _ _ _ _ _ _ _).mono ?_
      rintro e w3 ⟨rfl, hn3⟩
      have c1 := hn3.src
      have c2 := hn3.pos
      have G3 := hn3.grown w G2
      have Z3 : Hid (w3.heap.size = w.heap.size + 2) := hn3.size.trans (by rw [Z2.out])
      have P3 : Hid (w3.cell? ⟨w.heap.size, 0 + 1, none⟩ = some (.int .i64 pos)) := (hn3.old _ (show w.heap.size < w2.heap.size by rw [Z2.out]; omega)).trans P2.out
      clear hn3 G2 P2
      go_wp2_with fail
      refine (peek_zz w2.heap.size 0 a0 t 0 w3 (by omega) (by omega) c1 c2).mono ?_
      rintro e w4 ⟨rfl, hd4⟩
      rw [HB2.out]
      have P4 : Hid (w4.cell? ⟨w.heap.size, 0 + 1, none⟩ = some (.int .i64 pos)) := (hd4.cell _).trans P3.out
      have G4 := hd4.grown G3
      have Z4 : Hid (w4.heap.size = w.heap.size + 2) := hd4.size.trans Z3.out
      clear c1 c2 hd4 G3 Z3 P3 Z2
      go_wp2_with fail
      refine (new_out _ _ _ _ _ _ _ _ _).mono ?_
      rintro e w5 ⟨rfl, hn5⟩
      have c1 := hn5.src
      have c2 := hn5.pos
      have G5 := hn5.grown w G4
      have P5 : Hid (w5.cell? ⟨w.heap.size, 0 + 1, none⟩ = some (.int .i64 pos)) := (hn5.old _ (show w.heap.size < w4.heap.size by rw [Z4.out]; omega)).trans P4.out
      clear hn5 G4 P4
      go_wp2_with fail
      refine (peek_zz w4.heap.size 0 (a9 ++ a0) u i w5 hcat (by omega) c1 c2).mono ?_
      rintro e w6 ⟨rfl, hd6⟩
      rw [HB3.out]
      have p6 : w6.cell? ⟨w.heap.size, 0 + 1, none⟩ = some (.int .i64 pos) := (hd6.cell _).trans P5.out
      have G6 := hd6.grown G5
      clear c1 c2 hd6 G5 P5 Z4
      go_wp2_with fail
      refine (pos_zz w.heap.size 0 pos w6 p6).mono ?_
      rintro e w7 ⟨rfl, rfl⟩
      go_wp2
      go_ret
      exact ⟨rfl, G6⟩
    · have hB0 : B = 0 := by rw [hB]; exact byteAt_out (by omega)
      subst hB0
      clear hB ht hu
      go_enter Try.func3, Try.ntmps3
      go_wp2_with (go_at_call 4; refine (bytes4_yes _ _ _ _ _ _ _ _ _ _ _ hsum).mono ?_; rintro e w' ⟨rfl, rfl⟩)
      refine (new_out _ _ _ _ _ _ _ _ _).mono ?_
      rintro e w1 ⟨rfl, hn1⟩
      have c1 := hn1.src
      have c2 := hn1.pos
      have G1 := hn1.grown w (Grown.refl w)
      have z1 := hn1.size
      have Z1 : Hid (w1.heap.size = w.heap.size + 1) := z1
      clear hn1 z1
      go_wp2_with fail
      refine (peek_zz w.heap.size 0 a0 pos i w1 (by omega) (by omega) c1 c2).mono ?_
      rintro e w2 ⟨rfl, hd2⟩
      rw [HB1.out]
      have P2 : Hid (w2.cell? ⟨w.heap.size, 0 + 1, none⟩ = some (.int .i64 pos)) := (hd2.cell _).trans c2
      have G2 := hd2.grown G1
      have Z2 : Hid (w2.heap.size = w.heap.size + 1) := hd2.size.trans Z1.out
      clear c1 c2 hd2 G1 Z1
      go_wp2_with fail
      refine (new_out _ _ _ _ _ _ _ _ _).mono ?_
      rintro e w3 ⟨rfl, hn3⟩
      have c1 := hn3.src
      have c2 := hn3.pos
      have G3 := hn3.grown w G2
      have Z3 : Hid (w3.heap.size = w.heap.size + 2) := hn3.size.trans (by rw [Z2.out])
      have P3 : Hid (w3.cell? ⟨w.heap.size, 0 + 1, none⟩ = some (.int .i64 pos)) := (hn3.old _ (show w.heap.size < w2.heap.size by rw [Z2.out]; omega)).trans P2.out
      clear hn3 G2 P2
      go_wp2_with fail
      refine (peek_zz w2.heap.size 0 a0 t 0 w3 (by omega) (by omega) c1 c2).mono ?_
      rintro e w4 ⟨rfl, hd4⟩
      rw [HB2.out]
      have P4 : Hid (w4.cell? ⟨w.heap.size, 0 + 1, none⟩ = some (.int .i64 pos)) := (hd4.cell _).trans P3.out
      have G4 := hd4.grown G3
      have Z4 : Hid (w4.heap.size = w.heap.size + 2) := hd4.size.trans Z3.out
      clear c1 c2 hd4 G3 Z3 P3 Z2
      go_wp2_with fail
      refine (new_out _ _ _ _ _ _ _ _ _).mono ?_
      rintro e w5 ⟨rfl, hn5⟩
      have c1 := hn5.src
      have c2 := hn5.pos
      have G5 := hn5.grown w G4
      have P5 : Hid (w5.cell? ⟨w.heap.size, 0 + 1, none⟩ = some (.int .i64 pos)) := (hn5.old _ (show w.heap.size < w4.heap.size by rw [Z4.out]; omega)).trans P4.out
      clear hn5 G4 P4
      go_wp2_with fail
      refine (peek_zz w4.heap.size 0 (a9 ++ a0) u i w5 hcat (by omega) c1 c2).mono ?_
      rintro e w6 ⟨rfl, hd6⟩
      rw [HB3.out]
      have p6 : w6.cell? ⟨w.heap.size, 0 + 1, none⟩ = some (.int .i64 pos) := (hd6.cell _).trans P5.out
      have G6 := hd6.grown G5
      clear c1 c2 hd6 G5 P5 Z4
      go_wp2_with fail
      refine (pos_zz w.heap.size 0 pos w6 p6).mono ?_
      rintro e w7 ⟨rfl, rfl⟩
      go_wp2
      go_ret
      exact ⟨rfl, G6⟩
  · have hB0 : B = 0 := by rw [hB]; exact byteAt_out (by omega)
    subst hB0
    clear hB ht hu
    go_enter Try.func3, Try.ntmps3
    go_wp2_with (go_at_call 4; refine (bytes4_yes _ _ _ _ _ _ _ _ _ _ _ hsum).mono ?_; rintro e w' ⟨rfl, rfl⟩)
    refine (new_out _ _ _ _ _ _ _ _ _).mono ?_
    rintro e w1 ⟨rfl, hn1⟩
    have c1 := hn1.src
    have c2 := hn1.pos
    have G1 := hn1.grown w (Grown.refl w)
    have z1 := hn1.size
    have Z1 : Hid (w1.heap.size = w.heap.size + 1) := z1
    clear hn1 z1
    go_wp2_with fail
    refine (peek_zz w.heap.size 0 a0 pos i w1 (by omega) (by omega) c1 c2).mono ?_
    rintro e w2 ⟨rfl, hd2⟩
    rw [HB1.out]
    have P2 : Hid (w2.cell? ⟨w.heap.size, 0 + 1, none⟩ = some (.int .i64 pos)) := (hd2.cell _).trans c2
    have G2 := hd2.grown G1
    have Z2 : Hid (w2.heap.size = w.heap.size + 1) := hd2.size.trans Z1.out
    clear c1 c2 hd2 G1 Z1
    go_wp2_with fail
    refine (new_out _ _ _ _ _ _ _ _ _).mono ?_
    rintro e w3 ⟨rfl, hn3⟩
    have c1 := hn3.src
    have c2 := hn3.pos
    have G3 := hn3.grown w G2
    have Z3 : Hid (w3.heap.size = w.heap.size + 2) := hn3.size.trans (by rw [Z2.out])
    have P3 : Hid (w3.cell? ⟨w.heap.size, 0 + 1, none⟩ = some (.int .i64 pos)) := (hn3.old _ (show w.heap.size < w2.heap.size by rw [Z2.out]; omega)).trans P2.out
    clear hn3 G2 P2
    go_wp2_with fail
    refine (peek_zz w2.heap.size 0 a0 t 0 w3 (by omega) (by omega) c1 c2).mono ?_
    rintro e w4 ⟨rfl, hd4⟩
    rw [HB2.out]
    have P4 : Hid (w4.cell? ⟨w.heap.size, 0 + 1, none⟩ = some (.int .i64 pos)) := (hd4.cell _).trans P3.out
    have G4 := hd4.grown G3
    have Z4 : Hid (w4.heap.size = w.heap.size + 2) := hd4.size.trans Z3.out
    clear c1 c2 hd4 G3 Z3 P3 Z2
    go_wp2_with fail
    refine (new_out _ _ _ _ _ _ _ _ _).mono ?_
    rintro e w5 ⟨rfl, hn5⟩
    have c1 := hn5.src
    have c2 := hn5.pos
    have G5 := hn5.grown w G4
    have P5 : Hid (w5.cell? ⟨w.heap.size, 0 + 1, none⟩ = some (.int .i64 pos)) := (hn5.old _ (show w.heap.size < w4.heap.size by rw [Z4.out]; omega)).trans P4.out
    clear hn5 G4 P4
    go_wp2_with fail
    refine (peek_zz w4.heap.size 0 (a9 ++ a0) u i w5 hcat (by omega) c1 c2).mono ?_
    rintro e w6 ⟨rfl, hd6⟩
    rw [HB3.out]
    have p6 : w6.cell? ⟨w.heap.size, 0 + 1, none⟩ = some (.int .i64 pos) := (hd6.cell _).trans P5.out
    have G6 := hd6.grown G5
    clear c1 c2 hd6 G5 P5 Z4
    go_wp2_with fail
    refine (pos_zz w.heap.size 0 pos w6 p6).mono ?_
    rintro e w7 ⟨rfl, rfl⟩
    go_wp2
    go_ret
    exact ⟨rfl, G6⟩

set_option maxHeartbeats 1000000 in
set_option maxRecDepth 100000 in
theorem law_no (a0 : ByteArray) (a1 a2 : Int) (a3 a4 : Bool) (a5 : Int) (a6 : ByteArray) (a7 : Bool) (a8 : Int) (a9 : ByteArray) (w : World) (h : 1048576 < a0.size + a6.size + a9.size)
    (b0 : a0.size ≤ 9223372036854775807) (b6 : a6.size ≤ 9223372036854775807) (b9 : a9.size ≤ 9223372036854775807) :
    Calls Try.prog 3 #[.string a0, .int .i64 a1, .int .i64 a2, .bool a3, .bool a4, .int .u8 a5, .string a6, .bool a7, .int .i64 a8, .string a9] w fun e w' => e = .returned (.bool true) ∧ Grown w w' := by
  go_enter Try.func3, Try.ntmps3
  go_wp2_with (go_at_call 4; refine (bytes4_no _ _ _ _ _ _ _ _ _ _ _ h b0 b6 b9).mono ?_; rintro e w' ⟨rfl, rfl⟩)
  go_ret
  exact ⟨rfl, Grown.refl _⟩

set_option maxHeartbeats 1000000 in
set_option maxRecDepth 100000 in
theorem law_out (a0 : ByteArray) (a1 a2 : Int) (a3 a4 : Bool) (a5 : Int) (a6 : ByteArray) (a7 : Bool) (a8 : Int) (a9 : ByteArray) (w : World) (hsum : a0.size + a6.size + a9.size ≤ 1048576)
    (b1 : -9223372036854775808 ≤ a1 ∧ a1 ≤ 9223372036854775807) (b8 : -9223372036854775808 ≤ a8 ∧ a8 ≤ 9223372036854775807)
    (h : a1 < 0 ∨ a8 < 0 ∨ 9223372036854775807 < (a9.size : Int) + a1 + a8) :
    Calls Try.prog 3 #[.string a0, .int .i64 a1, .int .i64 a2, .bool a3, .bool a4, .int .u8 a5, .string a6, .bool a7, .int .i64 a8, .string a9] w fun e w' => e = .returned (.bool true) ∧ Grown w w' := by
  have g0 : a0.size ≤ 1048576 := by omega
  have g9 : a9.size ≤ 1048576 := by omega
  obtain ⟨b1l, b1u⟩ := b1
  obtain ⟨b8l, b8u⟩ := b8
  by_cases h1 : a1 < 0
  · clear h
    go_enter Try.func3, Try.ntmps3
    go_wp2_with (go_at_call 4; refine (bytes4_yes _ _ _ _ _ _ _ _ _ _ _ hsum).mono ?_; rintro e w' ⟨rfl, rfl⟩)
    go_ret
    exact ⟨rfl, Grown.refl _⟩
  · have h1' : decide (a1 < 0) = false := decide_eq_false h1
    by_cases h8 : a8 < 0
    · clear h
      go_enter Try.func3, Try.ntmps3
      go_wp2_with (go_at_call 4; refine (bytes4_yes _ _ _ _ _ _ _ _ _ _ _ hsum).mono ?_; rintro e w' ⟨rfl, rfl⟩)
      go_ret
      exact ⟨rfl, Grown.refl _⟩
    · have h8' : decide (a8 < 0) = false := decide_eq_false h8
      have hh : 9223372036854775807 < (a9.size : Int) + a1 + a8 := by omega
      clear h
      by_cases h9 : 9223372036854775807 < (a9.size : Int) + a1
      · go_enter Try.func3, Try.ntmps3
        go_wp2_with (go_at_call 4; refine (bytes4_yes _ _ _ _ _ _ _ _ _ _ _ hsum).mono ?_; rintro e w' ⟨rfl, rfl⟩)
        go_ret
        exact ⟨rfl, Grown.refl _⟩
      · go_enter Try.func3, Try.ntmps3
        go_wp2_with (go_at_call 4; refine (bytes4_yes _ _ _ _ _ _ _ _ _ _ _ hsum).mono ?_; rintro e w' ⟨rfl, rfl⟩)
        go_ret
        exact ⟨rfl, Grown.refl _⟩

end Go.Proofs.Qxb6623294a
