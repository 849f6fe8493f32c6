/-
  SEAT b6619434a: THE WALKS OF FnScanNumberMaximalMunch (4).
-/
import Derived.Test.Qxb6619434aScan
import Derived.Test.Qxb6619434aCopy
namespace Go.Proofs.Qxb6619434a
open Go.RowKit

theorem bytes11_yes (a : Option Addr) (n c : Nat) (i : Int) (w : World) (h1 : n ≤ 1048576) :
    Calls Try.prog 11 #[.slice a n c, .int .i64 i] w fun e w' => e = .returned (.bool true) ∧ w = w' := by
  go_enter Try.func11, Try.ntmps11
  go_wp2
  go_ret
  exact ⟨rfl, rfl⟩
theorem bytes11_no (a : Option Addr) (n c : Nat) (i : Int) (w : World) (h1 : 1048576 < n) :
    Calls Try.prog 11 #[.slice a n c, .int .i64 i] w fun e w' => e = .returned (.bool false) ∧ w = w' := by
  go_enter Try.func11, Try.ntmps11
  go_wp2
  go_ret
  exact ⟨rfl, rfl⟩

/-- The law's own loop: the automaton has come to p. -/
def RunAt (zs : List Int) (i : Nat) (vs vp : Value) : Prop := ∃ (p : Nat) (st : Int), vs = .int .i64 st ∧ vp = .int .i64 p ∧ AtS zs i p st

set_option maxHeartbeats 4000000 in
set_option maxRecDepth 100000 in
theorem law4_row (x0 : Addr) (c i : Nat) (zs : List Int) (w : World) (hn : zs.length ≤ 1048576) (hi : i ≤ 9223372036854775807) (hsrc : Src w x0 zs) :
    Calls Try.prog 4 #[.slice (some x0) zs.length c, .int .i64 i] w fun e w' => e = .returned (.bool true) ∧ Below w.heap.size w w' := by
  obtain ⟨i0, hi0, hz0, hz1, hz2⟩ := info_parts Try.info5
  have hneq := fun (w : World) (a : Option Addr) (n c n' c' : Nat) => run_neq_slice_nil_any (P := Try.prog) w 22 5 a n c n' c' Try.underlying22
  go_enter Try.func4, Try.ntmps4
  go_wp2_with (first | (go_at_call 11; refine (bytes11_yes _ _ _ _ _ hn).mono ?_; rintro e w' ⟨rfl, rfl⟩) | (at_make; refine wpList_make_full _ rfl (.tmp 25) (.tmp 25) 22 rfl w.heap.size 5 i0 (.int .u8 0) 1 Try.underlying22 hi0 hz0 hz1 _ _ _ _ zs.length rfl rfl rfl rfl ?b2 ?b3 (Nat.le_refl _) ?_))
  case b2 => rw [hz2]; omega
  case b3 => unfold maxLen; omega
  intro w1 hown1 hgrow1
  obtain ⟨cur, hcur, hlen⟩ := made_row hown1
  have hbel1 : Below w.heap.size w w1 := (Below.refl _ _).grown hgrow1 (Nat.le_refl _) (fun k h => by cases h)
  have HC : Hid (w1.heap[w.heap.size]? = some (.cells cur.toArray 5 (0, 0))) := hcur
  have HL : Hid (cur.length = zs.length) := hlen
  have hsrc1 := hsrc.below hbel1
  clear hown1 hgrow1 hcur hlen
  go_wp2_with (refine wpList_copy_bytes rfl (.tmp 27) (.tmp 28) rfl w.heap.size x0 c zs cur rfl rfl HC.out HL.out hsrc1 w.heap.size w hbel1 (Nat.le_refl _) ?_)
  intro w2 hrow2 hbel2 _
  clear hsrc1 hsrc HC HL hbel1 hneq hz0 hz1 hz2 hi0
  go_wp2
  go_loop [6, 7] (fun vs vp => RunAt zs i vs vp) (fun _ vp => zs.length - (intOf vp).toNat)
  case atStart => exact ⟨i, 0, rfl, rfl, AtS.start zs i⟩
  case round =>
    obtain ⟨p, st, rfl, rfl, hA⟩ := hrel
    have hpos := hA.pos
    have htop := hA.top
    have hend : (p < zs.length ∧ 0 ≤ step st (zs.getD p 0)) ∨ End zs i p st := by
      by_cases hlt : p < zs.length
      · by_cases hs : step st (zs.getD p 0) < 0
        · exact .inr ⟨hA, fun _ => hs⟩
        · exact .inl ⟨hlt, by omega⟩
      · exact .inr ⟨hA, fun h => absurd h hlt⟩
    rcases hend with ⟨hlt, hs0⟩ | hend
    · have hck := hrow2 p hlt
      have hbd := (step_bd st (zs.getD p 0)).1
      obtain ⟨x, hx⟩ : ∃ x, x = zs.getD p 0 := ⟨_, rfl⟩
      rw [← hx] at hck hs0 hbd
      have HN : Hid (AtS zs i (p + 1) (step st x)) := by rw [hx]; exact hA.next hlt rfl (by rw [← hx]; exact hs0)
      clear hx hA
      simp only [Nat.zero_add] at hck
      go_wp2_with (go_at_call 12; refine (step_any _ _ _ hpos htop).mono ?_; rintro e w' ⟨rfl, rfl⟩)
      go_round
      case rel => exact ⟨p + 1, _, rfl, by go_num, HN.out⟩
      case measure => simp [intOf]; omega
    · have HE : Hid (End zs i p st) := hend
      clear hend
      cases hacc : acceptB st
      all_goals by_cases hlt : p < zs.length
      all_goals try (have hck := hrow2 p hlt; have hs := HE.out.stop hlt; obtain ⟨x, hx⟩ : ∃ x, x = zs.getD p 0 := ⟨_, rfl⟩; rw [← hx] at hck hs; clear hx; simp only [Nat.zero_add] at hck)
      all_goals go_wp2_with (first | (go_at_call 12; refine (step_any _ _ _ hpos htop).mono ?_; rintro e w' ⟨rfl, rfl⟩) | (go_at_call 13; refine (accept_any _ _ hpos htop).mono ?_; rintro e w' ⟨rfl, rfl⟩))
      all_goals
        refine (scan_zz _ w.heap.size 0 _ i _ zs w2 rfl (Nat.le_trans hn (by omega)) hi (fun _ => rfl) hrow2).mono ?_
        rintro e w3 ⟨rfl, p', st', hE', rfl⟩
        obtain ⟨rfl, rfl⟩ := HE.out.one hE'
        rw [hacc]
        clear hE'
        go_wp2
        go_ret
        exact ⟨rfl, hbel2⟩

set_option maxHeartbeats 1000000 in
set_option maxRecDepth 100000 in
theorem law4_nil (i : Nat) (w : World) (hi : i ≤ 9223372036854775807) :
    Calls Try.prog 4 #[.slice none 0 0, .int .i64 i] w fun e w' => e = .returned (.bool true) ∧ Below w.heap.size w w' := by
  have hneq := fun (w : World) (a : Option Addr) (n c n' c' : Nat) => run_neq_slice_nil_any (P := Try.prog) w 22 5 a n c n' c' Try.underlying22
  have HE : Hid (End [] i i 0) := ⟨AtS.start [] i, fun h => absurd h (Nat.not_lt_zero _)⟩
  have hacc : acceptB 0 = false := rfl
  go_enter Try.func4, Try.ntmps4
  go_wp2_with (go_at_call 11; refine (bytes11_yes _ _ _ _ _ (by omega)).mono ?_; rintro e w' ⟨rfl, rfl⟩)
  refine wp_loop_rounds 1 ?_
  rw [rounds_succ]
  go_wp2_with (go_at_call 13; refine (accept_any _ _ (by omega) (by omega)).mono ?_; rintro e w' ⟨rfl, rfl⟩)
  refine (scan_zz none 0 0 0 i 0 [] w rfl (by omega) hi (fun h => absurd h (Nat.lt_irrefl _)) (fun t h => absurd h (Nat.not_lt_zero _))).mono ?_
  rintro e w3 ⟨rfl, p', st', hE', rfl⟩
  obtain ⟨rfl, rfl⟩ := HE.out.one hE'
  rw [hacc]
  clear hE'
  go_wp2
  go_ret
  exact ⟨rfl, Below.refl _ _⟩

set_option maxHeartbeats 1000000 in
set_option maxRecDepth 100000 in
theorem law4_big (a : Option Addr) (n c : Nat) (i : Int) (w : World) (h : 1048576 < n) :
    Calls Try.prog 4 #[.slice a n c, .int .i64 i] w fun e w' => e = .returned (.bool true) ∧ Below w.heap.size w w' := by
  go_enter Try.func4, Try.ntmps4
  go_wp2_with (go_at_call 11; refine (bytes11_no _ _ _ _ _ h).mono ?_; rintro e w' ⟨rfl, rfl⟩)
  go_ret
  exact ⟨rfl, Below.refl _ _⟩

set_option maxHeartbeats 1000000 in
set_option maxRecDepth 100000 in
theorem law4_neg (a : Option Addr) (n c : Nat) (i : Int) (w : World) (h : n ≤ 1048576) (hi : i < 0) :
    Calls Try.prog 4 #[.slice a n c, .int .i64 i] w fun e w' => e = .returned (.bool true) ∧ Below w.heap.size w w' := by
  go_enter Try.func4, Try.ntmps4
  go_wp2_with (go_at_call 11; refine (bytes11_yes _ _ _ _ _ h).mono ?_; rintro e w' ⟨rfl, rfl⟩)
  go_ret
  exact ⟨rfl, Below.refl _ _⟩

end Go.Proofs.Qxb6619434a
