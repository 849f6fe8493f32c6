/-
  SEAT b6619434a: THE WALKS OF FnHex4ReadsFourHexDigits (3).
-/
import Derived.Test.Qxb6619434aHex
import Derived.Test.Qxb6619434aCopy
namespace Go.Proofs.Qxb6619434a
open Go.RowKit

theorem acc4 (zs : List Int) : acc zs 4 = (((hv (zs.getD 0 0)) * 16 + hv (zs.getD 1 0)) * 16 + hv (zs.getD 2 0)) * 16 + hv (zs.getD 3 0) := by simp [acc]
theorem digits4 (zs : List Int) (R : Int) (hR : R = acc zs 4) (hg : Good zs 4) :
    bits BinOp.and IntKind.i32 (R / 4096) 15 = hv (zs.getD 0 0) ∧ bits BinOp.and IntKind.i32 (R / 256) 15 = hv (zs.getD 1 0) ∧ bits BinOp.and IntKind.i32 (R / 16) 15 = hv (zs.getD 2 0) ∧ bits BinOp.and IntKind.i32 R 15 = hv (zs.getD 3 0) := by
  have h0 := hv_bd (hg 0 (by omega))
  have h1 := hv_bd (hg 1 (by omega))
  have h2 := hv_bd (hg 2 (by omega))
  have h3 := hv_bd (hg 3 (by omega))
  have e := acc4 zs
  rw [← hR] at e
  refine ⟨?_, ?_, ?_, ?_⟩ <;> rw [and15 _ (by omega) (by omega)] <;> omega
theorem hex_form {x : Int} (hx : hexB x = true) : (48 ≤ x ∧ x ≤ 57) ∨ (97 ≤ x ∧ x ≤ 102) ∨ (65 ≤ x ∧ x ≤ 70) := by
  have h' : (48 ≤ x ∧ x ≤ 57 ∨ 97 ≤ x ∧ x ≤ 102) ∨ 65 ≤ x ∧ x ≤ 70 := by simpa [hexB, dg] using hx
  omega
theorem tab_at (dn : Nat) : ∀ h : dn < (ByteArray.mk #[48, 49, 50, 51, 52, 53, 54, 55, 56, 57, 97, 98, 99, 100, 101, 102]).size, ((ByteArray.mk #[48, 49, 50, 51, 52, 53, 54, 55, 56, 57, 97, 98, 99, 100, 101, 102])[dn]'h).toNat = if dn < 10 then dn + 48 else dn + 87 := by
  intro h
  match dn, h with
  | 0, _ | 1, _ | 2, _ | 3, _ | 4, _ | 5, _ | 6, _ | 7, _ | 8, _ | 9, _ | 10, _ | 11, _ | 12, _ | 13, _ | 14, _ | 15, _ => rfl
  | n + 16, h => exact absurd h (by simp [ByteArray.size])
theorem tab_low (x : Int) (dn : Nat) (hx : (48 ≤ x ∧ x ≤ 57) ∨ (97 ≤ x ∧ x ≤ 102)) (hd : (dn : Int) = hv x) :
    ∀ h : dn < (ByteArray.mk #[48, 49, 50, 51, 52, 53, 54, 55, 56, 57, 97, 98, 99, 100, 101, 102]).size, ((((ByteArray.mk #[48, 49, 50, 51, 52, 53, 54, 55, 56, 57, 97, 98, 99, 100, 101, 102])[dn]'h).toNat : Nat) : Int) = x := by
  intro h
  rw [tab_at dn h]
  unfold hv at hd
  rcases hx with hx | hx
  · rw [if_pos hx] at hd
    rw [if_pos (by omega)]; omega
  · rw [if_neg (by omega), if_pos hx] at hd
    rw [if_neg (by omega)]; omega
theorem tab_up (x : Int) (dn : Nat) (hx : 65 ≤ x ∧ x ≤ 70) (hd : (dn : Int) = hv x) :
    ∀ h : dn < (ByteArray.mk #[48, 49, 50, 51, 52, 53, 54, 55, 56, 57, 97, 98, 99, 100, 101, 102]).size, ((((ByteArray.mk #[48, 49, 50, 51, 52, 53, 54, 55, 56, 57, 97, 98, 99, 100, 101, 102])[dn]'h).toNat : Nat) : Int) = x - 65 + 97 := by
  intro h
  rw [tab_at dn h]
  unfold hv at hd
  rw [if_neg (by omega), if_neg (by omega)] at hd
  rw [if_neg (by omega)]; omega

/-- The first loop's head: as long as 'want' says yes the bytes behind are digits. -/
def WantAt (zs : List Int) (v i : Value) : Prop := ∃ k : Nat, k ≤ 4 ∧ i = .int .i64 k ∧ (v = .bool true ∧ Good zs k ∨ v = .bool false ∧ ¬ Good zs 4)
def Upto4 (i : Value) : Prop := ∃ k : Nat, k ≤ 4 ∧ i = .int .i64 k

set_option maxHeartbeats 4000000 in
set_option maxRecDepth 100000 in
theorem law3_row (x0 : Addr) (c : Nat) (zs : List Int) (w : World) (hn : zs.length ≤ 1048576)
    (hb : ∀ t, t < zs.length → 0 ≤ zs.getD t 0 ∧ zs.getD t 0 ≤ 255) (hsrc : Src w x0 zs) :
    Calls Try.prog 3 #[.slice (some x0) zs.length c] w fun e w' => e = .returned (.bool true) ∧ Below w.heap.size w w' := by
  have HB : Hid (∀ t, t < zs.length → 0 ≤ zs.getD t 0 ∧ zs.getD t 0 ≤ 255) := hb
  clear hb
  obtain ⟨i0, hi, hz0, hz1, hz2⟩ := info_parts Try.info5
  have hneq := fun (w : World) (a : Option Addr) (n c n' c' : Nat) => run_neq_slice_nil_any (P := Try.prog) w 22 5 a n c n' c' Try.underlying22
  go_enter Try.func3, Try.ntmps3
  go_wp2_with (first | (go_at_call 8; refine (bytes8_yes _ _ _ _ hn).mono ?_; rintro e w' ⟨rfl, rfl⟩) | (at_make; refine wpList_make_full _ rfl (.tmp 20) (.tmp 20) 22 rfl w.heap.size 5 i0 (.int .u8 0) 1 Try.underlying22 hi hz0 hz1 _ _ _ _ zs.length rfl rfl rfl rfl ?b2 ?b3 (Nat.le_refl _) ?_))
  case b2 => rw [hz2]; omega
  case b3 => unfold maxLen; omega
  intro w1 hown1 hgrow1
  obtain ⟨cur, hcur, hlen⟩ := made_row hown1
  have hbel1 : Below w.heap.size w w1 := (Below.refl _ _).grown hgrow1 (Nat.le_refl _) (fun k h => by cases h)
  have HC : Hid (w1.heap[w.heap.size]? = some (.cells cur.toArray 5 (0, 0))) := hcur
  have HL : Hid (cur.length = zs.length) := hlen
  have hsrc1 := hsrc.below hbel1
  clear hown1 hgrow1 hcur hlen
  go_wp2_with (refine wpList_copy_bytes rfl (.tmp 22) (.tmp 23) rfl w.heap.size x0 c zs cur rfl rfl HC.out HL.out hsrc1 w.heap.size w hbel1 (Nat.le_refl _) ?_)
  intro w2 hrow2 hbel2 _
  clear hsrc1 hsrc HC HL hbel1 hneq hz0 hz1 hz2 hi
  by_cases h4 : 4 ≤ zs.length
  · have hd4 : decide ((4 : Int) ≤ (zs.length : Int)) = true := decide_eq_true (by omega)
    go_wp2_with fail
    refine (hex4_zz _ _ _ zs w2 hn (Nat.le_refl _) h4 HB.out hrow2).mono ?_
    rintro e w3 ⟨rfl, ⟨hg, rfl⟩ | ⟨hg, rfl⟩⟩
    · obtain ⟨R, hR⟩ : ∃ R, R = acc zs 4 := ⟨_, rfl⟩
      have hRb := acc_bd zs 4 hg
      rw [← hR] at hRb
      obtain ⟨hR0, hR1⟩ := hRb
      have hR2 : R ≤ 65535 := by
        have : (16 : Int) ^ 4 = 65536 := by decide
        omega
      have hR3 : decide (R < 0) = false := decide_eq_false (by omega)
      have hR4 : decide (65535 < R) = false := decide_eq_false (by omega)
      rw [← hR]
      have HR : Hid (R = acc zs 4) := hR
      clear hR hR1
      go_wp2
      go_loop [6, 7] (fun v i => v = .bool true ∧ Upto4 i) (fun _ i => 4 - (intOf i).toNat)
      case atStart => exact ⟨rfl, 0, Nat.zero_le _, rfl⟩
      case round =>
        obtain ⟨rfl, k, hk, rfl⟩ := hrel
        by_cases hlt : k < 4
        · have hck := hrow2 k (by omega)
          have hh := hg k hlt
          obtain ⟨x, hx⟩ : ∃ x, x = zs.getD k 0 := ⟨_, rfl⟩
          rw [← hx] at hck hh
          clear hx
          simp only [Nat.zero_add] at hck
          go_wp2_with (go_at_call 10; refine (hex_any _ _).mono ?_; rintro e w' ⟨rfl, rfl⟩)
          go_round
          case rel => exact ⟨rfl, k + 1, by omega, by go_num⟩
          case measure => simp [intOf]; omega
        · go_wp2
          go_loop [8] (fun i => Upto4 i) (fun i => 4 - (intOf i).toNat)
          case atStart => exact ⟨0, Nat.zero_le _, rfl⟩
          case round =>
            obtain ⟨k2, hk2, rfl⟩ := hrel
            by_cases hlt2 : k2 < 4
            · have hck := hrow2 k2 (by omega)
              have hh := hg k2 hlt2
              obtain ⟨x, hx⟩ : ∃ x, x = zs.getD k2 0 := ⟨_, rfl⟩
              rw [← hx] at hck hh
              have HX : Hid (x = zs.getD k2 0) := hx
              clear hx
              simp only [Nat.zero_add] at hck
              obtain ⟨dn, hdn⟩ : ∃ dn : Nat, (dn : Int) = hv x := ⟨(hv x).toNat, by have := hv_bd hh; omega⟩
              have hdb : dn < 16 := by have := hv_bd hh; omega
              have HD : Hid (_ ∧ _ ∧ _ ∧ _) := digits4 zs R HR.out hg
              have hform := hex_form hh
              have hup : (65 ≤ x ∧ x ≤ 70 ∧ ∀ h : dn < (ByteArray.mk #[48, 49, 50, 51, 52, 53, 54, 55, 56, 57, 97, 98, 99, 100, 101, 102]).size, ((((ByteArray.mk #[48, 49, 50, 51, 52, 53, 54, 55, 56, 57, 97, 98, 99, 100, 101, 102])[dn]'h).toNat : Nat) : Int) = x - 65 + 97) ∨ ((decide (65 ≤ x) = false ∨ (65 ≤ x ∧ 70 < x)) ∧ ∀ h : dn < (ByteArray.mk #[48, 49, 50, 51, 52, 53, 54, 55, 56, 57, 97, 98, 99, 100, 101, 102]).size, ((((ByteArray.mk #[48, 49, 50, 51, 52, 53, 54, 55, 56, 57, 97, 98, 99, 100, 101, 102])[dn]'h).toNat : Nat) : Int) = x) := by
                rcases hform with h | h | h
                · exact .inr ⟨.inl (decide_eq_false (by omega)), tab_low x dn (.inl h) hdn⟩
                · exact .inr ⟨.inr (by omega), tab_low x dn (.inr h) hdn⟩
                · exact .inl ⟨h.1, h.2, tab_up x dn h hdn⟩
              have HF : Hid ((dn : Int) = hv x) := hdn
              clear hform hdn
              rcases (show k2 = 0 ∨ k2 = 1 ∨ k2 = 2 ∨ k2 = 3 by omega) with rfl | rfl | rfl | rfl
              all_goals
                first
                  | have hD : bits BinOp.and IntKind.i32 (R / 4096) 15 = (dn : Int) := by rw [HF.out, HX.out]; exact HD.out.1
                  | have hD : bits BinOp.and IntKind.i32 (R / 256) 15 = (dn : Int) := by rw [HF.out, HX.out]; exact HD.out.2.1
                  | have hD : bits BinOp.and IntKind.i32 (R / 16) 15 = (dn : Int) := by rw [HF.out, HX.out]; exact HD.out.2.2.1
                  | have hD : bits BinOp.and IntKind.i32 R 15 = (dn : Int) := by rw [HF.out, HX.out]; exact HD.out.2.2.2
                clear HD
                rcases hup with ⟨h1, h2, hS⟩ | ⟨h1 | ⟨h1, h2⟩, hS⟩
                all_goals go_wp2
                all_goals exact ⟨by first | exact ⟨1, by omega, rfl⟩ | exact ⟨2, by omega, rfl⟩ | exact ⟨3, by omega, rfl⟩ | exact ⟨4, by omega, rfl⟩, by simp [intOf]⟩
            · go_wp2
              go_ret
              exact ⟨rfl, hbel2⟩
    · have HG : Hid (¬ Good zs 4) := hg
      clear hg
      go_wp2
      go_loop [6, 7] (fun v i => WantAt zs v i) (fun _ i => 4 - (intOf i).toNat)
      case atStart => exact ⟨0, Nat.zero_le _, rfl, .inl ⟨rfl, fun t h => absurd h (Nat.not_lt_zero _)⟩⟩
      case round =>
        obtain ⟨k, hk, rfl, ⟨rfl, hgk⟩ | ⟨rfl, -⟩⟩ := hrel
        · have hlt : k < 4 := by
            rcases Nat.lt_or_ge k 4 with h | h
            · exact h
            · exact absurd ((show k = 4 by omega) ▸ hgk) HG.out
          have hck := hrow2 k (by omega)
          obtain ⟨x, hx⟩ : ∃ x, x = zs.getD k 0 := ⟨_, rfl⟩
          rw [← hx] at hck
          have HX : Hid (x = zs.getD k 0) := hx
          clear hx
          simp only [Nat.zero_add] at hck
          cases hh : hexB x with
          | true =>
            have HN : Hid (Good zs (k + 1)) := hgk.succ (by rw [← HX.out]; exact hh)
            go_wp2_with (go_at_call 10; refine (hex_any _ _).mono ?_; rintro e w' ⟨rfl, rfl⟩)
            go_round
            case rel => exact ⟨k + 1, by omega, by go_num, .inl ⟨rfl, HN.out⟩⟩
            case measure => simp [intOf]; omega
          | false =>
            go_wp2_with (go_at_call 10; refine (hex_any _ _).mono ?_; rintro e w' ⟨rfl, rfl⟩)
            go_round
            case rel => exact ⟨k + 1, by omega, by go_num, .inr ⟨rfl, HG.out⟩⟩
            case measure => simp [intOf]; omega
        · go_wp2
          go_ret
          exact ⟨rfl, hbel2⟩
  · have hd4 : decide ((4 : Int) ≤ (zs.length : Int)) = false := decide_eq_false (by omega)
    go_wp2_with fail
    refine (hex4_zz_short _ _ _ w2 (by omega)).mono ?_
    rintro e w3 ⟨rfl, rfl⟩
    go_wp2
    refine wp_loop_rounds 1 ?_
    rw [rounds_succ]
    go_wp2
    go_ret
    exact ⟨rfl, hbel2⟩

set_option maxHeartbeats 1000000 in
set_option maxRecDepth 100000 in
theorem law3_nil (w : World) : Calls Try.prog 3 #[.slice none 0 0] w fun e w' => e = .returned (.bool true) ∧ Below w.heap.size w w' := by
  have hneq := fun (w : World) (a : Option Addr) (n c n' c' : Nat) => run_neq_slice_nil_any (P := Try.prog) w 22 5 a n c n' c' Try.underlying22
  go_enter Try.func3, Try.ntmps3
  go_wp2_with (go_at_call 8; refine (bytes8_yes _ _ _ _ (by omega)).mono ?_; rintro e w' ⟨rfl, rfl⟩)
  refine (hex4_zz_short _ _ _ w (by omega)).mono ?_
  rintro e w3 ⟨rfl, rfl⟩
  go_wp2
  refine wp_loop_rounds 1 ?_
  rw [rounds_succ]
  go_wp2
  go_ret
  exact ⟨rfl, Below.refl _ _⟩

set_option maxHeartbeats 1000000 in
set_option maxRecDepth 100000 in
theorem law3_big (a : Option Addr) (n c : Nat) (w : World) (h : 1048576 < n) :
    Calls Try.prog 3 #[.slice a n c] w fun e w' => e = .returned (.bool true) ∧ Below w.heap.size w w' := by
  go_enter Try.func3, Try.ntmps3
  go_wp2_with (go_at_call 8; refine (bytes8_no _ _ _ _ h).mono ?_; rintro e w' ⟨rfl, rfl⟩)
  go_ret
  exact ⟨rfl, Below.refl _ _⟩

end Go.Proofs.Qxb6619434a
