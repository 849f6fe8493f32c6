/-
  SEAT b6619434a: CONTRACTS: digitB1 (17), hexB1 (10), zzBytes (8), hex4 (23), ZZhex4 (9).
-/
import Derived.Test.Qxb6619434aBase
namespace Go.Proofs.Qxb6619434a
open Go.RowKit

def dg (c : Int) : Bool := decide (48 ≤ c) && decide (c ≤ 57)
def hexB (c : Int) : Bool := dg c || (decide (97 ≤ c) && decide (c ≤ 102)) || (decide (65 ≤ c) && decide (c ≤ 70))

theorem dg_iff (c : Int) : dg c = true ↔ 48 ≤ c ∧ c ≤ 57 := by simp [dg]

theorem digit_any (c : Int) (w : World) :
    Calls Try.prog 17 #[.int .u8 c] w fun e w' => e = .returned (.bool (dg c)) ∧ w = w' := by
  by_cases h1 : 48 ≤ c
  · by_cases h2 : c ≤ 57
    · have e : dg c = true := (dg_iff c).2 ⟨h1, h2⟩
      rw [e]
      go_enter Try.func17, Try.ntmps17
      go_wp2
      go_ret
      exact ⟨rfl, rfl⟩
    · have e : dg c = false := by simp [dg, h2]
      rw [e]
      go_enter Try.func17, Try.ntmps17
      go_wp2
      go_ret
      exact ⟨rfl, rfl⟩
  · have e : dg c = false := by simp [dg, h1]
    rw [e]
    go_enter Try.func17, Try.ntmps17
    go_wp2
    go_ret
    exact ⟨rfl, rfl⟩

theorem dg_no (c : Int) (h : c < 48 ∨ 57 < c) : dg c = false := by simp [dg]; omega
theorem hexB_no (c : Int) (h : c < 48 ∨ (57 < c ∧ c < 65) ∨ (70 < c ∧ c < 97) ∨ 102 < c) : hexB c = false := by simp [hexB, dg]; omega
theorem hexB_yes (c : Int) (h : (48 ≤ c ∧ c ≤ 57) ∨ (65 ≤ c ∧ c ≤ 70) ∨ (97 ≤ c ∧ c ≤ 102)) : hexB c = true := by simp [hexB, dg]; omega
theorem hex_cases (c : Int) : (48 ≤ c ∧ c ≤ 57) ∨ (97 ≤ c ∧ c ≤ 102) ∨ (65 ≤ c ∧ c ≤ 70) ∨ c < 48 ∨ (57 < c ∧ c < 65) ∨ (70 < c ∧ c < 97) ∨ 102 < c := by omega

set_option maxHeartbeats 400000 in
theorem hex_any (c : Int) (w : World) :
    Calls Try.prog 10 #[.int .u8 c] w fun e w' => e = .returned (.bool (hexB c)) ∧ w = w' := by
  rcases hex_cases c with h | h | h | h | h | h | h
  · have e := hexB_yes c (.inl h)
    have d := (dg_iff c).2 h
    rw [e]
    clear e
    go_enter Try.func10, Try.ntmps10
    go_wp2_with (go_at_call 17; refine (digit_any _ _).mono ?_; rintro e w' ⟨rfl, rfl⟩)
    go_ret
    exact ⟨rfl, rfl⟩
  · have e := hexB_yes c (.inr (.inr h))
    have d := dg_no c (by omega)
    rw [e]
    obtain ⟨h1, h2⟩ := h
    clear e
    go_enter Try.func10, Try.ntmps10
    go_wp2_with (go_at_call 17; refine (digit_any _ _).mono ?_; rintro e w' ⟨rfl, rfl⟩)
    go_ret
    exact ⟨rfl, rfl⟩
  · have e := hexB_yes c (.inr (.inl h))
    have d := dg_no c (by omega)
    rw [e]
    obtain ⟨h1, h2⟩ := h
    have h3 : decide ((97 : Int) ≤ c) = false := decide_eq_false (by omega)
    clear e
    go_enter Try.func10, Try.ntmps10
    go_wp2_with (go_at_call 17; refine (digit_any _ _).mono ?_; rintro e w' ⟨rfl, rfl⟩)
    go_ret
    exact ⟨rfl, rfl⟩
  all_goals
    have e := hexB_no c (by omega)
    have d := dg_no c (by omega)
    rw [e]
    clear e
    go_enter Try.func10, Try.ntmps10
    go_wp2_with (go_at_call 17; refine (digit_any _ _).mono ?_; rintro e w' ⟨rfl, rfl⟩)
    go_ret
    exact ⟨ret_bool (by first | rfl | (simp; omega)), rfl⟩

theorem bytes8_yes (a : Option Addr) (n c : Nat) (w : World) (h1 : n ≤ 1048576) :
    Calls Try.prog 8 #[.slice a n c] w fun e w' => e = .returned (.bool true) ∧ w = w' := by
  go_enter Try.func8, Try.ntmps8
  go_wp2
  go_ret
  exact ⟨rfl, rfl⟩

theorem bytes8_no (a : Option Addr) (n c : Nat) (w : World) (h1 : 1048576 < n) :
    Calls Try.prog 8 #[.slice a n c] w fun e w' => e = .returned (.bool false) ∧ w = w' := by
  go_enter Try.func8, Try.ntmps8
  go_wp2
  go_ret
  exact ⟨rfl, rfl⟩

/-- The digit's value. -/
def hv (c : Int) : Int := if 48 ≤ c ∧ c ≤ 57 then c - 48 else if 97 ≤ c ∧ c ≤ 102 then c - 87 else c - 55
/-- What the first k digits say. -/
def acc (zs : List Int) : Nat → Int
  | 0 => 0
  | k + 1 => acc zs k * 16 + hv (zs.getD k 0)
/-- The first k bytes are digits. -/
def Good (zs : List Int) (k : Nat) : Prop := ∀ t, t < k → hexB (zs.getD t 0) = true
theorem Good.succ {zs : List Int} {k : Nat} (h : Good zs k) (h1 : hexB (zs.getD k 0) = true) : Good zs (k + 1) := fun t ht => by
  by_cases e : t = k
  · rw [e]; exact h1
  · exact h t (by omega)

theorem hv_bd {c : Int} (h : hexB c = true) : 0 ≤ hv c ∧ hv c < 16 := by
  have h' : (48 ≤ c ∧ c ≤ 57 ∨ 97 ≤ c ∧ c ≤ 102) ∨ 65 ≤ c ∧ c ≤ 70 := by simpa [hexB, dg] using h
  unfold hv
  split
  · omega
  · split <;> omega
theorem acc_bd (zs : List Int) (k : Nat) (h : Good zs k) : 0 ≤ acc zs k ∧ acc zs k < 16 ^ k := by
  induction k with
  | zero => simp [acc]
  | succ k ih =>
    have a := ih (fun t ht => h t (by omega))
    have b := hv_bd (h k (Nat.lt_succ_self k))
    have e : (16 : Int) ^ (k + 1) = 16 ^ k * 16 := Int.pow_succ 16 k
    rw [e]
    show 0 ≤ acc zs k * 16 + hv (zs.getD k 0) ∧ acc zs k * 16 + hv (zs.getD k 0) < _
    omega
theorem ofInt_i32 (a : Nat) (ha : a < 4294967296) : (BitVec.ofInt 32 (a : Int)).toNat = a := by
  rw [BitVec.ofInt_natCast, BitVec.toNat_ofNat]; exact Nat.mod_eq_of_lt (by omega)
theorem or16_nat (a d : Nat) (ha : a < 4096) (hd : d < 16) : bits .or .i32 ((a * 16 : Nat) : Int) (d : Int) = ((a * 16 + d : Nat) : Int) := by
  have e : a * 16 ||| d = a * 16 + d := by
    have := Nat.shiftLeft_add_eq_or_of_lt (b := d) (i := 4) (by omega) a
    rw [Nat.shiftLeft_eq] at this
    exact this.symm
  show IntKind.i32.wrap ((BitVec.ofInt 32 ((a * 16 : Nat) : Int) ||| BitVec.ofInt 32 (d : Int)).toNat : Int) = _
  rw [BitVec.toNat_or, ofInt_i32 _ (by omega), ofInt_i32 d (by omega), e, IntKind.wrap_i32]
  omega
theorem or16 (r d : Int) (h1 : 0 ≤ r) (h2 : r < 4096) (h3 : 0 ≤ d) (h4 : d < 16) : bits BinOp.or IntKind.i32 (wrap32 (r * 16)) d = r * 16 + d := by
  obtain ⟨A, rfl⟩ := Int.eq_ofNat_of_zero_le h1
  obtain ⟨B, rfl⟩ := Int.eq_ofNat_of_zero_le h3
  have e : wrap32 ((A : Int) * 16) = ((A * 16 : Nat) : Int) := by unfold wrap32; omega
  rw [e, or16_nat A B (by omega) (by omega)]
  omega
theorem and15 (n : Int) (h1 : 0 ≤ n) (h2 : n < 2147483648) : bits BinOp.and IntKind.i32 n 15 = n % 16 := by
  obtain ⟨A, rfl⟩ := Int.eq_ofNat_of_zero_le h1
  have h15 : (BitVec.ofInt 32 15).toNat = 2 ^ 4 - 1 := by decide
  show IntKind.i32.wrap ((BitVec.ofInt 32 (A : Int) &&& BitVec.ofInt 32 15).toNat : Int) = _
  rw [BitVec.toNat_and, ofInt_i32 _ (by omega), h15, Nat.and_two_pow_sub_one_eq_mod, IntKind.wrap_i32]
  omega
/-- One digit more. -/
theorem acc_step (zs : List Int) (k : Nat) (hk : k < 4) (h : Good zs k) (h1 : hexB (zs.getD k 0) = true) (d : Int) (hd : d = hv (zs.getD k 0)) :
    bits BinOp.or IntKind.i32 (wrap32 (acc zs k * 16)) d = acc zs (k + 1) := by
  have a := acc_bd zs k h
  have b := hv_bd h1
  have p : (16 : Int) ^ k ≤ 4096 := by
    match k, hk with
    | 0, _ => decide
    | 1, _ => decide
    | 2, _ => decide
    | 3, _ => decide
  rw [or16 _ _ a.1 (by omega) (by omega) (by omega), hd]
  rfl

theorem hex4_short (a : Option Addr) (n c : Nat) (w : World) (h1 : n < 4) :
    Calls Try.prog 23 #[.slice a n c] w fun e w' => e = .returned (.tuple #[.int .i32 0, .bool false]) ∧ w = w' := by
  go_enter Try.func23, Try.ntmps23
  go_wp2
  go_ret2
  exact ⟨rfl, rfl⟩

/-- hex4's answer at four bytes or more. -/
def HexOut (zs : List Int) (w : World) (e : Ending) (w' : World) : Prop := w = w' ∧ ((Good zs 4 ∧ e = .returned (.tuple #[.int .i32 (acc zs 4), .bool true])) ∨ (¬ Good zs 4 ∧ e = .returned (.tuple #[.int .i32 0, .bool false])))

def HexAt (zs : List Int) (r i : Value) : Prop := ∃ k : Nat, k ≤ 4 ∧ i = .int .i64 k ∧ r = .int .i32 (acc zs k) ∧ Good zs k

set_option maxHeartbeats 1000000 in
theorem hex4_any (b off c : Nat) (zs : List Int) (w : World) (hn : zs.length ≤ 1048576) (hc : zs.length ≤ c) (h4 : 4 ≤ zs.length)
    (hb : ∀ t, t < zs.length → 0 ≤ zs.getD t 0 ∧ zs.getD t 0 ≤ 255)
    (hcell : Row w b off zs) : Calls Try.prog 23 #[.slice (some ⟨b, off, none⟩) zs.length c] w (HexOut zs w) := by
  have HB : Hid (∀ t, t < zs.length → 0 ≤ zs.getD t 0 ∧ zs.getD t 0 ≤ 255) := hb
  clear hb
  go_enter Try.func23, Try.ntmps23
  go_wp2
  go_loop [4, 13] (fun r i => HexAt zs r i) (fun _ i => 4 - (intOf i).toNat)
  case atStart => exact ⟨0, Nat.zero_le _, rfl, rfl, fun t h => absurd h (Nat.not_lt_zero _)⟩
  case round =>
    obtain ⟨k, hk, rfl, rfl, hg⟩ := hrel
    by_cases hlt : k < 4
    · have hck := hcell k (by omega)
      obtain ⟨x, hx⟩ : ∃ x, x = zs.getD k 0 := ⟨_, rfl⟩
      have hxb := HB.out k (by omega)
      rw [← hx] at hck hxb
      obtain ⟨hx0, hx1⟩ := hxb
      have HX : Hid (x = zs.getD k 0) := hx
      clear hx
      rcases hex_cases x with h | h | h | h | h | h | h
      · have HG : Hid (hexB (zs.getD k 0) = true) := by show _ = _; rw [← HX.out]; exact hexB_yes x (.inl h)
        have HV : Hid (x - 48 = hv (zs.getD k 0)) := by show _ = _; rw [← HX.out, hv, if_pos h]
        obtain ⟨h1, h2⟩ := h
        go_wp2
        go_round
        case rel => exact ⟨k + 1, by omega, by go_num, by rw [acc_step zs k hlt hg HG.out _ HV.out], hg.succ HG.out⟩
        case measure => simp [intOf]; omega
      · have HG : Hid (hexB (zs.getD k 0) = true) := by show _ = _; rw [← HX.out]; exact hexB_yes x (.inr (.inr h))
        have HV : Hid (x - 87 = hv (zs.getD k 0)) := by show _ = _; rw [← HX.out, hv, if_neg (by omega), if_pos h]
        obtain ⟨h1, h2⟩ := h
        go_wp2
        go_round
        case rel => exact ⟨k + 1, by omega, by go_num, by rw [acc_step zs k hlt hg HG.out _ HV.out], hg.succ HG.out⟩
        case measure => simp [intOf]; omega
      · have HG : Hid (hexB (zs.getD k 0) = true) := by show _ = _; rw [← HX.out]; exact hexB_yes x (.inr (.inl h))
        have HV : Hid (x - 55 = hv (zs.getD k 0)) := by show _ = _; rw [← HX.out, hv, if_neg (by omega), if_neg (by omega)]
        obtain ⟨h1, h2⟩ := h
        have h3 : decide ((97 : Int) ≤ x) = false := decide_eq_false (by omega)
        go_wp2
        go_round
        case rel => exact ⟨k + 1, by omega, by go_num, by rw [acc_step zs k hlt hg HG.out _ HV.out], hg.succ HG.out⟩
        case measure => simp [intOf]; omega
      all_goals
        have HN : Hid (¬ Good zs 4) := fun hh => by
          have h5 := hh k hlt
          rw [← HX.out, hexB_no x (by omega)] at h5
          cases h5
        go_wp2
        all_goals go_ret2
        all_goals exact ⟨rfl, .inr ⟨HN.out, rfl⟩⟩
    · obtain rfl : k = 4 := by omega
      go_wp2
      go_ret2
      exact ⟨rfl, .inl ⟨hg, rfl⟩⟩

theorem hex4_zz_short (a : Option Addr) (n c : Nat) (w : World) (h1 : n < 4) :
    Calls Try.prog 9 #[.slice a n c] w fun e w' => e = .returned (.tuple #[.int .i32 0, .bool false]) ∧ w = w' := by
  go_enter Try.func9, Try.ntmps9
  go_wp2_with fail
  refine (hex4_short a n c w h1).mono ?_
  rintro e w' ⟨rfl, rfl⟩
  go_wp2
  go_ret2
  exact ⟨rfl, rfl⟩

theorem hex4_zz (b off c : Nat) (zs : List Int) (w : World) (hn : zs.length ≤ 1048576) (hc : zs.length ≤ c) (h4 : 4 ≤ zs.length)
    (hb : ∀ t, t < zs.length → 0 ≤ zs.getD t 0 ∧ zs.getD t 0 ≤ 255)
    (hcell : Row w b off zs) : Calls Try.prog 9 #[.slice (some ⟨b, off, none⟩) zs.length c] w (HexOut zs w) := by
  have HB : Hid (∀ t, t < zs.length → 0 ≤ zs.getD t 0 ∧ zs.getD t 0 ≤ 255) := hb
  clear hb
  go_enter Try.func9, Try.ntmps9
  go_wp2_with fail
  refine (hex4_any b off c zs w hn hc h4 HB.out hcell).mono ?_
  rintro e w' ⟨rfl, ⟨hg, rfl⟩ | ⟨hg, rfl⟩⟩
  · go_wp2
    go_ret2
    exact ⟨rfl, .inl ⟨hg, rfl⟩⟩
  · have HN : Hid (¬ Good zs 4) := hg
    clear hg
    go_wp2
    go_ret2
    exact ⟨rfl, .inr ⟨HN.out, rfl⟩⟩

end Go.Proofs.Qxb6619434a
