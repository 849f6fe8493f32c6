/-
  SEAT b6623324a: THE WALKS OF FnNewlineDeeperLevelAddsOneIndent (3) AND FnNewlineAppendsAfterBuf (4).
-/
import Derived.Test.Qxb6623324aEnc
namespace Go.Proofs.Qxb6623324a
open Go.RowKit

theorem bytes5_yes (a0 : Bool) (a1 : ByteArray) (a2 : Bool) (a3 : Option Addr) (n c : Nat) (a4 : Int) (w : World) (h : a1.size + n ≤ 1048576) :
    Calls Try.prog 5 #[.bool a0, .string a1, .bool a2, .slice a3 n c, .int .i64 a4] w fun e w' => e = .returned (.bool true) ∧ w = w' := by
  have g1 : a1.size ≤ 1048576 := by omega
  have g2 : n ≤ 1048576 := by omega
  go_enter Try.func5, Try.ntmps5
  go_wp2
  go_ret
  exact ⟨rfl, rfl⟩
theorem bytes5_no (a0 : Bool) (a1 : ByteArray) (a2 : Bool) (a3 : Option Addr) (n c : Nat) (a4 : Int) (w : World) (h : 1048576 < a1.size + n) (h1 : a1.size ≤ 9223372036854775807) (h2 : n ≤ 9223372036854775807) :
    Calls Try.prog 5 #[.bool a0, .string a1, .bool a2, .slice a3 n c, .int .i64 a4] w fun e w' => e = .returned (.bool false) ∧ w = w' := by
  by_cases g1 : a1.size ≤ 1048576
  · by_cases g2 : n ≤ 1048576
    · go_enter Try.func5, Try.ntmps5
      go_wp2
      go_ret
      exact ⟨rfl, rfl⟩
    · go_enter Try.func5, Try.ntmps5
      go_wp2
      go_ret
      exact ⟨rfl, rfl⟩
  · go_enter Try.func5, Try.ntmps5
    go_wp2
    go_ret
    exact ⟨rfl, rfl⟩

theorem Own.weaken {w : World} {B B' : Nat} {v : Value} {zs : List Int} (h : Own w B v zs) (hle : B' ≤ B) : Own w B' v zs := by
  refine ⟨h.1, ?_⟩
  rcases h.2 with h2 | ⟨g, cap, cur, hv, hg, r⟩
  · exact .inl h2
  · exact .inr ⟨g, cap, cur, hv, Nat.le_trans hle hg, r⟩
/-- What was owned before a block was laid lies apart from what is owned from there on. -/
theorem Own.apart {w w' : World} {B B' : Nat} {v v' : Value} {zs zs' : List Int} (h : Own w B v zs) (h' : Own w' B' v' zs') (hle : w.heap.size ≤ B') : v.ownBlock = none ∨ v.ownBlock ≠ v'.ownBlock := by
  cases e : v.ownBlock with
  | none => exact .inl rfl
  | some k =>
    refine .inr fun e' => ?_
    have h1 := (h.lt k e).2
    have h2 := (h'.lt k e'.symm).1
    omega
theorem Own.row {w : World} {B : Nat} {v : Value} {zs : List Int} (h : Own w B v zs) : ∀ k, v.ownBlock = some k → B ≤ k := fun k e => (h.lt k e).1
theorem sb_nil {ind : ByteArray} (h : ind.toList.isEmpty = true) : sb ind = [] := by
  rw [ByteArray.toList_eq] at h
  unfold sb
  rw [List.isEmpty_iff.1 h]
  rfl
theorem nl_length (xs : List Int) (ind : ByteArray) (lvl : Nat) (hx : xs.length ≤ 1048576) (hs : ind.size ≤ 4096) (hl : lvl ≤ 1025) : (nl xs ind lvl).length ≤ 8388608 := by
  unfold nl
  split
  · omega
  · rw [List.length_append, List.length_append, rep_length, sb_length]
    have : lvl * ind.size ≤ 1025 * 4096 := Nat.mul_le_mul hl hs
    simp
    omega
theorem nl_succ (xs : List Int) (ind : ByteArray) (lvl : Nat) : nl xs ind (lvl + 1) = nl xs ind lvl ++ sb ind := by
  unfold nl
  cases h : ind.toList.isEmpty with
  | true => simp [sb_nil h]
  | false => simp [rep, List.append_assoc]
theorem nl_zero_no {xs : List Int} {ind : ByteArray} (h : ind.toList.isEmpty = true) : nl xs ind 0 = xs := by rw [nl, h]; rfl
theorem nl_zero_yes {xs : List Int} {ind : ByteArray} (h : ind.toList.isEmpty = false) : nl xs ind 0 = xs ++ [10] := by rw [nl, h]; simp [rep]

set_option maxHeartbeats 4000000 in
set_option maxRecDepth 100000 in
theorem law3_yes (eh : Bool) (ind : ByteArray) (ke : Bool) (a3 : Option Addr) (cp lvl : Nat) (xs : List Int) (w : World) (hV : View w (.slice a3 xs.length cp) xs) (hsum : ind.size + xs.length ≤ 1048576) (hsz : ind.size ≤ 4096) (hlv : lvl ≤ 1024)
    (hind : ind.toList.isEmpty = false) :
    Calls Try.prog 3 #[.bool eh, .string ind, .bool ke, .slice a3 xs.length cp, .int .i64 lvl] w fun e w' => e = .returned (.bool true) ∧ Below w.heap.size w w' := by
  have hx : xs.length ≤ 1048576 := by omega
  obtain ⟨q, hq⟩ : ∃ q : Nat, q = lvl + 1 := ⟨_, rfl⟩
  have HQ : Hid (q = lvl + 1) := hq
  have hqs : (lvl : Int) + 1 = (q : Int) := by omega
  have hqb : q ≤ 1025 := by omega
  have hbl : (nl xs ind lvl).length + (sb ind).length ≤ 1073741824 := by
    have h1 := nl_length xs ind lvl hx hsz (by omega)
    have h2 := sb_length ind
    omega
  have hl1 : decide ((lvl : Int) < 0) = false := decide_eq_false (by omega)
  clear hq
  go_enter Try.func3, Try.ntmps3
  go_wp2_with (go_at_call 5; refine (bytes5_yes _ _ _ _ _ _ _ _ hsum).mono ?_; rintro e w' ⟨rfl, rfl⟩)
  refine (clone_any hV (by omega)).mono ?_
  rintro e w1 ⟨c1, rfl, o1, g1⟩
  have B1 : Below w.heap.size w w1 := (Below.refl _ _).grown g1 (Nat.le_refl _) (fun k h => by cases h)
  have V1 := hV.below B1
  have s1 := B1.size
  clear g1
  go_wp2_with fail
  refine (zz_any _ _ _ c1 0 xs w1 w.heap.size o1 s1 hsz (by omega) hx).mono ?_
  rintro e w2 ⟨z, rfl, oz2, g2⟩
  have B2 := B1.grown g2 s1 o1.row
  have V2 := hV.below B2
  have s2 := B2.size
  clear g2 o1 V1 B1 s1
  go_wp2_with fail
  refine (clone_any V2 (by omega)).mono ?_
  rintro e w3 ⟨c2, rfl, o2, g3⟩
  have oz3 := oz2.kept g3 (Classical.em _)
  have B3 := B2.grown g3 s2 (fun k h => by cases h)
  have s3 := B3.size
  have ap3 := oz2.apart o2 (Nat.le_refl _)
  have o2' := o2.weaken s2
  have r2 := o2'.row
  clear g3 V2
  go_wp2_with fail
  refine (zz_any _ _ _ c2 lvl xs w3 w.heap.size o2' s3 hsz (by omega) hx).mono ?_
  rintro e w4 ⟨l, rfl, ol4, g4⟩
  have oz4 := oz3.kept g4 ap3
  have B4 := B3.grown g4 s3 r2
  have V4 := hV.below B4
  have s4 := B4.size
  clear g4 o2 o2' r2 ap3 oz3 oz2 B3 B2 s2 s3
  go_wp2_with fail
  refine (clone_any V4 (by omega)).mono ?_
  rintro e w5 ⟨c3, rfl, o3, g5⟩
  have N5 : Own w5 w4.heap.size (.slice none 0 0) [] := World.ownsRow_nil w5 w4.heap.size 5 1
  have oz5 := oz4.kept g5 (oz4.apart N5 (Nat.le_refl _))
  have ol5 := ol4.kept g5 (ol4.apart N5 (Nat.le_refl _))
  have B5 := B4.grown g5 s4 (fun k h => by cases h)
  have s5 := B5.size
  have apz := oz4.apart o3 (Nat.le_refl _)
  have apl := ol4.apart o3 (Nat.le_refl _)
  have o3' := o3.weaken s4
  have r3 := o3'.row
  clear g5 V4 N5
  go_wp2_with fail
  refine (zz_any _ _ _ c3 q xs w5 w.heap.size o3' s5 hsz (by omega) hx).mono ?_
  rintro e w6 ⟨n, rfl, on6, g6⟩
  rw [HQ.out, nl_succ] at on6
  have oz6 := oz5.kept g6 apz
  have ol6 := ol5.kept g6 apl
  have B6 := B5.grown g6 s5 r3
  have V6 := hV.below B6
  have s6 := B6.size
  clear g6 o3 o3' r3 apz apl oz5 oz4 ol5 ol4 B5 B4 s4 s5
  go_wp2_with fail
  refine (clone_any V6 (by omega)).mono ?_
  rintro e w7 ⟨c4, rfl, o4, g7⟩
  have N7 : Own w7 w6.heap.size (.slice none 0 0) [] := World.ownsRow_nil w7 w6.heap.size 5 1
  have oz7 := oz6.kept g7 (oz6.apart N7 (Nat.le_refl _))
  have ol7 := ol6.kept g7 (ol6.apart N7 (Nat.le_refl _))
  have on7 := on6.kept g7 (on6.apart N7 (Nat.le_refl _))
  have B7 := B6.grown g7 s6 (fun k h => by cases h)
  have s7 := B7.size
  have apz := oz6.apart o4 (Nat.le_refl _)
  have apl := ol6.apart o4 (Nat.le_refl _)
  have apn := on6.apart o4 (Nat.le_refl _)
  have o4' := o4.weaken s6
  have r4 := o4'.row
  clear g7 V6 N7 oz6 ol6 on6 B6
  have oa := o4'.alloc (.cells #[.int .u8 10] 5)
  have hv1 := (view_one w7 10).src
  go_wp2_with (at_builtin; refine wpList_append_bytes rfl (.tmp 60) (.tmp 61) 22 rfl w.heap.size _ xs rfl oa _ rfl [10] hv1 (by simp; omega) (by simp; omega) ?_)
  intro c5 w8 o5 g8 _
  have ga : w7.grownBy (w7.alloc (.cells #[.int .u8 10] 5)) none := World.grownBy_alloc w7 _ none
  have oz8 := (oz7.alloc (.cells #[.int .u8 10] 5)).kept g8 apz
  have ol8 := (ol7.alloc (.cells #[.int .u8 10] 5)).kept g8 apl
  have on8 := (on7.alloc (.cells #[.int .u8 10] 5)).kept g8 apn
  have B8 := (B7.alloc s7 (.cells #[.int .u8 10] 5)).grown g8 (by simp; omega) r4
  have s8 := B8.size
  rw [← nl_zero_yes hind] at o5
  clear g8 ga oa hv1 oz7 ol7 on7 apz apl apn o4 o4' r4 B7 s7
  have Vl := ol8.view
  go_wp2_with fail
  refine (clone_any Vl (Nat.le_trans (nl_length xs ind lvl hx hsz (by omega)) (by omega))).mono ?_
  rintro e w9 ⟨c6, rfl, o6, g9⟩
  have N9 : Own w9 w8.heap.size (.slice none 0 0) [] := World.ownsRow_nil w9 w8.heap.size 5 1
  have oz9 := oz8.kept g9 (oz8.apart N9 (Nat.le_refl _))
  have on9 := on8.kept g9 (on8.apart N9 (Nat.le_refl _))
  have o59 := o5.kept g9 (o5.apart N9 (Nat.le_refl _))
  have B9 := B8.grown g9 s8 (fun k h => by cases h)
  have s9 := B9.size
  have apz := oz8.apart o6 (Nat.le_refl _)
  have apn := on8.apart o6 (Nat.le_refl _)
  have ap5 := o5.apart o6 (Nat.le_refl _)
  have o6' := o6.weaken s8
  have r6 := o6'.row
  clear g9 Vl N9 oz8 ol8 on8 o5 B8
  go_wp2_with (at_builtin; refine wpList_append_bytes rfl (.tmp 65) (.tmp 66) 9 rfl w.heap.size _ (nl xs ind lvl) rfl o6' _ rfl (sb ind) (src_string _ ind) hbl s9 ?_)
  intro c7 w10 o7 g10 _
  have oz10 := oz9.kept g10 apz
  have on10 := on9.kept g10 apn
  have o510 := o59.kept g10 ap5
  have B10 := B9.grown g10 s9 r6
  clear g10 oz9 on9 o59 B9 s9 apz apn ap5 o6 o6' r6
  go_wp2_with fail
  refine (eq_own oz10 o510 (Nat.le_trans (nl_length xs ind 0 hx hsz (by omega)) (by omega))).mono ?_
  rintro e w11 ⟨rfl, d11⟩
  have on11 := d11.own on10
  have o711 := d11.own o7
  have B11 := B10.trans (d11.below _)
  clear oz10 o510 on10 o7 d11 B10
  go_wp2_with fail
  refine (eq_own on11 o711 (by rw [List.length_append]; exact hbl)).mono ?_
  rintro e w12 ⟨rfl, d12⟩
  go_wp2
  go_ret
  exact ⟨rfl, B11.trans (d12.below _)⟩

set_option maxHeartbeats 4000000 in
set_option maxRecDepth 100000 in
theorem law3_no (eh : Bool) (ind : ByteArray) (ke : Bool) (a3 : Option Addr) (cp lvl : Nat) (xs : List Int) (w : World) (hV : View w (.slice a3 xs.length cp) xs) (hsum : ind.size + xs.length ≤ 1048576) (hsz : ind.size ≤ 4096) (hlv : lvl ≤ 1024)
    (hind : ind.toList.isEmpty = true) :
    Calls Try.prog 3 #[.bool eh, .string ind, .bool ke, .slice a3 xs.length cp, .int .i64 lvl] w fun e w' => e = .returned (.bool true) ∧ Below w.heap.size w w' := by
  have hx : xs.length ≤ 1048576 := by omega
  obtain ⟨q, hq⟩ : ∃ q : Nat, q = lvl + 1 := ⟨_, rfl⟩
  have HQ : Hid (q = lvl + 1) := hq
  have hqs : (lvl : Int) + 1 = (q : Int) := by omega
  have hqb : q ≤ 1025 := by omega
  have hbl : (nl xs ind lvl).length + (sb ind).length ≤ 1073741824 := by
    have h1 := nl_length xs ind lvl hx hsz (by omega)
    have h2 := sb_length ind
    omega
  have hl1 : decide ((lvl : Int) < 0) = false := decide_eq_false (by omega)
  clear hq
  go_enter Try.func3, Try.ntmps3
  go_wp2_with (go_at_call 5; refine (bytes5_yes _ _ _ _ _ _ _ _ hsum).mono ?_; rintro e w' ⟨rfl, rfl⟩)
  refine (clone_any hV (by omega)).mono ?_
  rintro e w1 ⟨c1, rfl, o1, g1⟩
  have B1 : Below w.heap.size w w1 := (Below.refl _ _).grown g1 (Nat.le_refl _) (fun k h => by cases h)
  have V1 := hV.below B1
  have s1 := B1.size
  clear g1
  go_wp2_with fail
  refine (zz_any _ _ _ c1 0 xs w1 w.heap.size o1 s1 hsz (by omega) hx).mono ?_
  rintro e w2 ⟨z, rfl, oz2, g2⟩
  have B2 := B1.grown g2 s1 o1.row
  have V2 := hV.below B2
  have s2 := B2.size
  clear g2 o1 V1 B1 s1
  go_wp2_with fail
  refine (clone_any V2 (by omega)).mono ?_
  rintro e w3 ⟨c2, rfl, o2, g3⟩
  have oz3 := oz2.kept g3 (Classical.em _)
  have B3 := B2.grown g3 s2 (fun k h => by cases h)
  have s3 := B3.size
  have ap3 := oz2.apart o2 (Nat.le_refl _)
  have o2' := o2.weaken s2
  have r2 := o2'.row
  clear g3 V2
  go_wp2_with fail
  refine (zz_any _ _ _ c2 lvl xs w3 w.heap.size o2' s3 hsz (by omega) hx).mono ?_
  rintro e w4 ⟨l, rfl, ol4, g4⟩
  have oz4 := oz3.kept g4 ap3
  have B4 := B3.grown g4 s3 r2
  have V4 := hV.below B4
  have s4 := B4.size
  clear g4 o2 o2' r2 ap3 oz3 oz2 B3 B2 s2 s3
  go_wp2_with fail
  refine (clone_any V4 (by omega)).mono ?_
  rintro e w5 ⟨c3, rfl, o3, g5⟩
  have N5 : Own w5 w4.heap.size (.slice none 0 0) [] := World.ownsRow_nil w5 w4.heap.size 5 1
  have oz5 := oz4.kept g5 (oz4.apart N5 (Nat.le_refl _))
  have ol5 := ol4.kept g5 (ol4.apart N5 (Nat.le_refl _))
  have B5 := B4.grown g5 s4 (fun k h => by cases h)
  have s5 := B5.size
  have apz := oz4.apart o3 (Nat.le_refl _)
  have apl := ol4.apart o3 (Nat.le_refl _)
  have o3' := o3.weaken s4
  have r3 := o3'.row
  clear g5 V4 N5
  go_wp2_with fail
  refine (zz_any _ _ _ c3 q xs w5 w.heap.size o3' s5 hsz (by omega) hx).mono ?_
  rintro e w6 ⟨n, rfl, on6, g6⟩
  rw [HQ.out, nl_succ] at on6
  have oz6 := oz5.kept g6 apz
  have ol6 := ol5.kept g6 apl
  have B6 := B5.grown g6 s5 r3
  have V6 := hV.below B6
  have s6 := B6.size
  clear g6 o3 o3' r3 apz apl oz5 oz4 ol5 ol4 B5 B4 s4 s5
  go_wp2_with fail
  refine (clone_any V6 (by omega)).mono ?_
  rintro e w7 ⟨c4, rfl, o4, g7⟩
  have N7 : Own w7 w6.heap.size (.slice none 0 0) [] := World.ownsRow_nil w7 w6.heap.size 5 1
  have oz7 := oz6.kept g7 (oz6.apart N7 (Nat.le_refl _))
  have ol7 := ol6.kept g7 (ol6.apart N7 (Nat.le_refl _))
  have on7 := on6.kept g7 (on6.apart N7 (Nat.le_refl _))
  have B7 := B6.grown g7 s6 (fun k h => by cases h)
  have s7 := B7.size
  have apz := oz6.apart o4 (Nat.le_refl _)
  have apl := ol6.apart o4 (Nat.le_refl _)
  have apn := on6.apart o4 (Nat.le_refl _)
  have o4' := o4.weaken s6
  have r4 := o4'.row
  clear g7 V6 N7 oz6 ol6 on6 B6
  have oz8 := oz7
  have ol8 := ol7
  have on8 := on7
  have o5 : Own w7 w.heap.size c4 (nl xs ind 0) := by rw [nl_zero_no hind]; exact o4'
  have B8 := B7
  have s8 := s7
  clear oz7 ol7 on7 apz apl apn o4 o4' r4 B7 s7
  have Vl := ol8.view
  go_wp2_with fail
  refine (clone_any Vl (Nat.le_trans (nl_length xs ind lvl hx hsz (by omega)) (by omega))).mono ?_
  rintro e w9 ⟨c6, rfl, o6, g9⟩
  have N9 : Own w9 w7.heap.size (.slice none 0 0) [] := World.ownsRow_nil w9 w7.heap.size 5 1
  have oz9 := oz8.kept g9 (oz8.apart N9 (Nat.le_refl _))
  have on9 := on8.kept g9 (on8.apart N9 (Nat.le_refl _))
  have o59 := o5.kept g9 (o5.apart N9 (Nat.le_refl _))
  have B9 := B8.grown g9 s8 (fun k h => by cases h)
  have s9 := B9.size
  have apz := oz8.apart o6 (Nat.le_refl _)
  have apn := on8.apart o6 (Nat.le_refl _)
  have ap5 := o5.apart o6 (Nat.le_refl _)
  have o6' := o6.weaken s8
  have r6 := o6'.row
  clear g9 Vl N9 oz8 ol8 on8 o5 B8
  go_wp2_with (at_builtin; refine wpList_append_bytes rfl (.tmp 65) (.tmp 66) 9 rfl w.heap.size _ (nl xs ind lvl) rfl o6' _ rfl (sb ind) (src_string _ ind) hbl s9 ?_)
  intro c7 w10 o7 g10 _
  have oz10 := oz9.kept g10 apz
  have on10 := on9.kept g10 apn
  have o510 := o59.kept g10 ap5
  have B10 := B9.grown g10 s9 r6
  clear g10 oz9 on9 o59 B9 s9 apz apn ap5 o6 o6' r6
  go_wp2_with fail
  refine (eq_own oz10 o510 (Nat.le_trans (nl_length xs ind 0 hx hsz (by omega)) (by omega))).mono ?_
  rintro e w11 ⟨rfl, d11⟩
  have on11 := d11.own on10
  have o711 := d11.own o7
  have B11 := B10.trans (d11.below _)
  clear oz10 o510 on10 o7 d11 B10
  go_wp2_with fail
  refine (eq_own on11 o711 (by rw [List.length_append]; exact hbl)).mono ?_
  rintro e w12 ⟨rfl, d12⟩
  go_wp2
  go_ret
  exact ⟨rfl, B11.trans (d12.below _)⟩


theorem bytes9_yes (a0 : Bool) (a1 : ByteArray) (a2 : Bool) (a3 : Option Addr) (n c : Nat) (a4 : Int) (w : World) (h : a1.size + n ≤ 1048576) :
    Calls Try.prog 9 #[.bool a0, .string a1, .bool a2, .slice a3 n c, .int .i64 a4] w fun e w' => e = .returned (.bool true) ∧ w = w' := by
  have g1 : a1.size ≤ 1048576 := by omega
  have g2 : n ≤ 1048576 := by omega
  go_enter Try.func9, Try.ntmps9
  go_wp2
  go_ret
  exact ⟨rfl, rfl⟩
theorem bytes9_no (a0 : Bool) (a1 : ByteArray) (a2 : Bool) (a3 : Option Addr) (n c : Nat) (a4 : Int) (w : World) (h : 1048576 < a1.size + n) (h1 : a1.size ≤ 9223372036854775807) (h2 : n ≤ 9223372036854775807) :
    Calls Try.prog 9 #[.bool a0, .string a1, .bool a2, .slice a3 n c, .int .i64 a4] w fun e w' => e = .returned (.bool false) ∧ w = w' := by
  by_cases g1 : a1.size ≤ 1048576
  · by_cases g2 : n ≤ 1048576
    · go_enter Try.func9, Try.ntmps9
      go_wp2
      go_ret
      exact ⟨rfl, rfl⟩
    · go_enter Try.func9, Try.ntmps9
      go_wp2
      go_ret
      exact ⟨rfl, rfl⟩
  · go_enter Try.func9, Try.ntmps9
    go_wp2
    go_ret
    exact ⟨rfl, rfl⟩

theorem nl_app (xs : List Int) (ind : ByteArray) (lvl : Nat) : nl xs ind lvl = xs ++ nl [] ind lvl := by
  unfold nl
  cases ind.toList.isEmpty with
  | true => simp
  | false => simp
theorem nl_len_no {ind : ByteArray} (lvl : Nat) (h : ind.toList.isEmpty = true) : (nl [] ind lvl).length = 0 := by rw [nl, h]; rfl
theorem nl_len_yes {ind : ByteArray} (lvl : Nat) (h : ind.toList.isEmpty = false) : (nl [] ind lvl).length = 1 + lvl * ind.size := by
  rw [nl, h]
  simp only [Bool.false_eq_true, if_false, List.nil_append]
  rw [List.length_append, rep_length, sb_length]
  rfl

set_option maxHeartbeats 4000000 in
set_option maxRecDepth 100000 in
theorem law4_yes (eh : Bool) (ind : ByteArray) (ke : Bool) (a3 : Option Addr) (cp lvl : Nat) (xs : List Int) (w : World) (hV : View w (.slice a3 xs.length cp) xs) (hsum : ind.size + xs.length ≤ 1048576) (hsz : ind.size ≤ 4096) (hlv : lvl ≤ 1024)
    (hind : ind.toList.isEmpty = false) :
    Calls Try.prog 4 #[.bool eh, .string ind, .bool ke, .slice a3 xs.length cp, .int .i64 lvl] w fun e w' => e = .returned (.bool true) ∧ Below w.heap.size w w' := by
  have hx : xs.length ≤ 1048576 := by omega
  have hl1 : decide ((lvl : Int) < 0) = false := decide_eq_false (by omega)
  have hbl := nl_length [] ind lvl (by simp) hsz (by omega)
  obtain ⟨n1, hn1⟩ : ∃ n1, n1 = (nl [] ind lvl).length := ⟨_, rfl⟩
  have HN1 : Hid (n1 = (nl [] ind lvl).length) := hn1
  obtain ⟨m, hm⟩ : ∃ m : Nat, m = lvl * ind.size := ⟨_, rfl⟩
  have hmb : m ≤ 8388608 := by
    rw [hm]
    have : lvl * ind.size ≤ 1025 * 4096 := Nat.mul_le_mul (by omega) hsz
    omega
  have hmul : (lvl : Int) * (ind.size : Int) = (m : Int) := by rw [hm]; simp
  have hwr : IntKind.i64.wrap (m : Int) = (m : Int) := IntWalk.i64_in _ (by omega)
  have hlen : ((n1 : Int) == 1 + (m : Int)) = true := by
    rw [hn1, nl_len_yes lvl hind, ← hm]
    simp
  clear hm
  clear hn1
  go_enter Try.func4, Try.ntmps4
  go_wp2_with (go_at_call 9; refine (bytes9_yes _ _ _ _ _ _ _ _ hsum).mono ?_; rintro e w' ⟨rfl, rfl⟩)
  refine (clone_any hV (by omega)).mono ?_
  rintro e w1 ⟨c1, rfl, o1, g1⟩
  have B1 : Below w.heap.size w w1 := (Below.refl _ _).grown g1 (Nat.le_refl _) (fun k h => by cases h)
  have s1 := B1.size
  clear g1
  go_wp2_with fail
  refine (zz_any _ _ _ c1 lvl xs w1 w.heap.size o1 s1 hsz (by omega) hx).mono ?_
  rintro e w2 ⟨z, rfl, oz2, g2⟩
  have B2 := B1.grown g2 s1 o1.row
  have s2 := B2.size
  have N2 : Own w2 w2.heap.size (.slice none 0 0) [] := World.ownsRow_nil w2 _ 5 1
  clear g2 o1 B1 s1
  go_wp2_with fail
  refine (zz_any _ _ _ (.slice none 0 0) lvl [] w2 w2.heap.size N2 (Nat.le_refl _) hsz (by omega) (by simp)).mono ?_
  rintro e w3 ⟨al, rfl, oa3, g3⟩
  have oz3 := oz2.kept g3 (Classical.em _)
  have B3 := B2.grown g3 s2 (fun k h => by cases h)
  have s3 := B3.size
  have V3 := hV.below B3
  have oa3' := oa3.weaken s2
  obtain ⟨aa, ca, hal⟩ := oa3'.slice
  rw [← HN1.out] at hal
  subst hal
  clear g3 oz2 N2 B2 oa3
  go_wp2_with fail
  refine (clone_any V3 (by omega)).mono ?_
  rintro e w4 ⟨c2, rfl, o4, g4⟩
  have oz4 := oz3.kept g4 (Classical.em _)
  have oa4 := oa3'.kept g4 (Classical.em _)
  have B4 := B3.grown g4 s3 (fun k h => by cases h)
  have s4 := B4.size
  have apz := oz3.apart o4 (Nat.le_refl _)
  have o4' := o4.weaken s3
  have r4 := o4'.row
  have sr := oa4.view.src
  clear g4 V3 oz3 oa3' B3 o4
  have hb2 : xs.length + (nl [] ind lvl).length ≤ 1073741824 := by omega
  have HS : Hid (Go.Src Try.prog 1 22 (.slice aa n1 ca) (nl [] ind lvl).length (bc (nl [] ind lvl)) w4) := sr
  clear sr
  go_wp2_with (at_builtin; refine wpList_append_bytes rfl (.tmp 48) (.tmp 49) 22 rfl w.heap.size _ xs rfl o4' _ rfl (nl [] ind lvl) HS.out hb2 s4 ?_)
  intro c3 w5 o5 g5 _
  have oz5 := oz4.kept g5 apz
  have B5 := B4.grown g5 s4 r4
  rw [← nl_app] at o5
  clear g5 oz4 oa4 B4 o4' apz r4 HS hb2
  go_wp2_with fail
  refine (eq_own oz5 o5 (Nat.le_trans (nl_length xs ind lvl hx hsz (by omega)) (by omega))).mono ?_
  rintro e w6 ⟨rfl, d6⟩
  have B6 := B5.trans (d6.below _)
  clear oz5 o5 d6 B5
  go_wp2
  go_ret
  exact ⟨rfl, B6⟩

set_option maxHeartbeats 4000000 in
set_option maxRecDepth 100000 in
theorem law4_no (eh : Bool) (ind : ByteArray) (ke : Bool) (a3 : Option Addr) (cp lvl : Nat) (xs : List Int) (w : World) (hV : View w (.slice a3 xs.length cp) xs) (hsum : ind.size + xs.length ≤ 1048576) (hsz : ind.size ≤ 4096) (hlv : lvl ≤ 1024)
    (hind : ind.toList.isEmpty = true) :
    Calls Try.prog 4 #[.bool eh, .string ind, .bool ke, .slice a3 xs.length cp, .int .i64 lvl] w fun e w' => e = .returned (.bool true) ∧ Below w.heap.size w w' := by
  have hx : xs.length ≤ 1048576 := by omega
  have hl1 : decide ((lvl : Int) < 0) = false := decide_eq_false (by omega)
  have hbl := nl_length [] ind lvl (by simp) hsz (by omega)
  obtain ⟨n1, hn1⟩ : ∃ n1, n1 = (nl [] ind lvl).length := ⟨_, rfl⟩
  have HN1 : Hid (n1 = (nl [] ind lvl).length) := hn1
  have hlen : ((n1 : Int) == 0) = true := by
    rw [hn1, nl_len_no lvl hind]
    rfl
  clear hn1
  go_enter Try.func4, Try.ntmps4
  go_wp2_with (go_at_call 9; refine (bytes9_yes _ _ _ _ _ _ _ _ hsum).mono ?_; rintro e w' ⟨rfl, rfl⟩)
  refine (clone_any hV (by omega)).mono ?_
  rintro e w1 ⟨c1, rfl, o1, g1⟩
  have B1 : Below w.heap.size w w1 := (Below.refl _ _).grown g1 (Nat.le_refl _) (fun k h => by cases h)
  have s1 := B1.size
  clear g1
  go_wp2_with fail
  refine (zz_any _ _ _ c1 lvl xs w1 w.heap.size o1 s1 hsz (by omega) hx).mono ?_
  rintro e w2 ⟨z, rfl, oz2, g2⟩
  have B2 := B1.grown g2 s1 o1.row
  have s2 := B2.size
  have N2 : Own w2 w2.heap.size (.slice none 0 0) [] := World.ownsRow_nil w2 _ 5 1
  clear g2 o1 B1 s1
  go_wp2_with fail
  refine (zz_any _ _ _ (.slice none 0 0) lvl [] w2 w2.heap.size N2 (Nat.le_refl _) hsz (by omega) (by simp)).mono ?_
  rintro e w3 ⟨al, rfl, oa3, g3⟩
  have oz3 := oz2.kept g3 (Classical.em _)
  have B3 := B2.grown g3 s2 (fun k h => by cases h)
  have s3 := B3.size
  have V3 := hV.below B3
  have oa3' := oa3.weaken s2
  obtain ⟨aa, ca, hal⟩ := oa3'.slice
  rw [← HN1.out] at hal
  subst hal
  clear g3 oz2 N2 B2 oa3
  go_wp2_with fail
  refine (clone_any V3 (by omega)).mono ?_
  rintro e w4 ⟨c2, rfl, o4, g4⟩
  have oz4 := oz3.kept g4 (Classical.em _)
  have oa4 := oa3'.kept g4 (Classical.em _)
  have B4 := B3.grown g4 s3 (fun k h => by cases h)
  have s4 := B4.size
  have apz := oz3.apart o4 (Nat.le_refl _)
  have o4' := o4.weaken s3
  have r4 := o4'.row
  have sr := oa4.view.src
  clear g4 V3 oz3 oa3' B3 o4
  have hb2 : xs.length + (nl [] ind lvl).length ≤ 1073741824 := by omega
  have HS : Hid (Go.Src Try.prog 1 22 (.slice aa n1 ca) (nl [] ind lvl).length (bc (nl [] ind lvl)) w4) := sr
  clear sr
  go_wp2_with (at_builtin; refine wpList_append_bytes rfl (.tmp 48) (.tmp 49) 22 rfl w.heap.size _ xs rfl o4' _ rfl (nl [] ind lvl) HS.out hb2 s4 ?_)
  intro c3 w5 o5 g5 _
  have oz5 := oz4.kept g5 apz
  have B5 := B4.grown g5 s4 r4
  rw [← nl_app] at o5
  clear g5 oz4 oa4 B4 o4' apz r4 HS hb2
  go_wp2_with fail
  refine (eq_own oz5 o5 (Nat.le_trans (nl_length xs ind lvl hx hsz (by omega)) (by omega))).mono ?_
  rintro e w6 ⟨rfl, d6⟩
  have B6 := B5.trans (d6.below _)
  clear oz5 o5 d6 B5
  go_wp2
  go_ret
  exact ⟨rfl, B6⟩

set_option maxHeartbeats 1000000 in
set_option maxRecDepth 100000 in
theorem law3_big (a0 : Bool) (a1 : ByteArray) (a2 : Bool) (a3 : Option Addr) (n c : Nat) (a4 : Int) (w : World) (h : 1048576 < a1.size + n) (h1 : a1.size ≤ 9223372036854775807) (h2 : n ≤ 9223372036854775807) :
    Calls Try.prog 3 #[.bool a0, .string a1, .bool a2, .slice a3 n c, .int .i64 a4] w fun e w' => e = .returned (.bool true) ∧ Below w.heap.size w w' := by
  go_enter Try.func3, Try.ntmps3
  go_wp2_with (go_at_call 5; refine (bytes5_no _ _ _ _ _ _ _ _ h h1 h2).mono ?_; rintro e w' ⟨rfl, rfl⟩)
  go_ret
  exact ⟨rfl, Below.refl _ _⟩

set_option maxHeartbeats 1000000 in
set_option maxRecDepth 100000 in
theorem law3_out (a0 : Bool) (a1 : ByteArray) (a2 : Bool) (a3 : Option Addr) (n c : Nat) (a4 : Int) (w : World) (hsum : a1.size + n ≤ 1048576) (h : 4096 < a1.size ∨ a4 < 0 ∨ 1024 < a4) :
    Calls Try.prog 3 #[.bool a0, .string a1, .bool a2, .slice a3 n c, .int .i64 a4] w fun e w' => e = .returned (.bool true) ∧ Below w.heap.size w w' := by
  have hn : n ≤ 1048576 := by omega
  by_cases h1 : 4096 < a1.size
  · clear h
    go_enter Try.func3, Try.ntmps3
    go_wp2_with (go_at_call 5; refine (bytes5_yes _ _ _ _ _ _ _ _ hsum).mono ?_; rintro e w' ⟨rfl, rfl⟩)
    go_ret
    exact ⟨rfl, Below.refl _ _⟩
  · have h1' : a1.size ≤ 4096 := by omega
    by_cases h2 : a4 < 0
    · clear h h1
      go_enter Try.func3, Try.ntmps3
      go_wp2_with (go_at_call 5; refine (bytes5_yes _ _ _ _ _ _ _ _ hsum).mono ?_; rintro e w' ⟨rfl, rfl⟩)
      go_ret
      exact ⟨rfl, Below.refl _ _⟩
    · have h2' : decide (a4 < 0) = false := decide_eq_false h2
      have h3 : 1024 < a4 := by omega
      clear h h1
      go_enter Try.func3, Try.ntmps3
      go_wp2_with (go_at_call 5; refine (bytes5_yes _ _ _ _ _ _ _ _ hsum).mono ?_; rintro e w' ⟨rfl, rfl⟩)
      go_ret
      exact ⟨rfl, Below.refl _ _⟩

set_option maxHeartbeats 1000000 in
set_option maxRecDepth 100000 in
theorem law4_big (a0 : Bool) (a1 : ByteArray) (a2 : Bool) (a3 : Option Addr) (n c : Nat) (a4 : Int) (w : World) (h : 1048576 < a1.size + n) (h1 : a1.size ≤ 9223372036854775807) (h2 : n ≤ 9223372036854775807) :
    Calls Try.prog 4 #[.bool a0, .string a1, .bool a2, .slice a3 n c, .int .i64 a4] w fun e w' => e = .returned (.bool true) ∧ Below w.heap.size w w' := by
  go_enter Try.func4, Try.ntmps4
  go_wp2_with (go_at_call 9; refine (bytes9_no _ _ _ _ _ _ _ _ h h1 h2).mono ?_; rintro e w' ⟨rfl, rfl⟩)
  go_ret
  exact ⟨rfl, Below.refl _ _⟩

set_option maxHeartbeats 1000000 in
set_option maxRecDepth 100000 in
theorem law4_out (a0 : Bool) (a1 : ByteArray) (a2 : Bool) (a3 : Option Addr) (n c : Nat) (a4 : Int) (w : World) (hsum : a1.size + n ≤ 1048576) (h : 4096 < a1.size ∨ a4 < 0 ∨ 1024 < a4) :
    Calls Try.prog 4 #[.bool a0, .string a1, .bool a2, .slice a3 n c, .int .i64 a4] w fun e w' => e = .returned (.bool true) ∧ Below w.heap.size w w' := by
  have hn : n ≤ 1048576 := by omega
  by_cases h1 : 4096 < a1.size
  · clear h
    go_enter Try.func4, Try.ntmps4
    go_wp2_with (go_at_call 9; refine (bytes9_yes _ _ _ _ _ _ _ _ hsum).mono ?_; rintro e w' ⟨rfl, rfl⟩)
    go_ret
    exact ⟨rfl, Below.refl _ _⟩
  · have h1' : a1.size ≤ 4096 := by omega
    by_cases h2 : a4 < 0
    · clear h h1
      go_enter Try.func4, Try.ntmps4
      go_wp2_with (go_at_call 9; refine (bytes9_yes _ _ _ _ _ _ _ _ hsum).mono ?_; rintro e w' ⟨rfl, rfl⟩)
      go_ret
      exact ⟨rfl, Below.refl _ _⟩
    · have h2' : decide (a4 < 0) = false := decide_eq_false h2
      have h3 : 1024 < a4 := by omega
      clear h h1
      go_enter Try.func4, Try.ntmps4
      go_wp2_with (go_at_call 9; refine (bytes9_yes _ _ _ _ _ _ _ _ hsum).mono ?_; rintro e w' ⟨rfl, rfl⟩)
      go_ret
      exact ⟨rfl, Below.refl _ _⟩

/-- A slice of bytes that came in, as what the walks take. -/
theorem view_of_arg {w : World} {x : Addr} {len cap : Nat} {zs : List Int} (hlc : len ≤ cap) (hz : zs.length = cap) (hc : ∀ i, i < zs.length → w.cell? (x.add i) = some (.int .u8 (zs.getD i 0))) :
    View w (.slice (some x) (zs.take len).length cap) (zs.take len) ∧ (zs.take len).length = len := by
  have hl : (zs.take len).length = len := by simp; omega
  refine ⟨.inr ⟨x, cap, rfl, ?_⟩, hl⟩
  intro j u hj
  have hlt : j < (zs.take len).length := by
    have := (List.getElem?_eq_some_iff.1 hj).1
    simpa [bc] using this
  have h1 : j < len := by omega
  rw [hc j (by omega)]
  unfold bc at hj
  rw [List.getElem?_map, List.getElem?_eq_getElem hlt] at hj
  simp only [Option.map_some, Option.some.injEq] at hj
  rw [← hj]
  simp [List.getD, show j < zs.length by omega]

end Go.Proofs.Qxb6623324a
