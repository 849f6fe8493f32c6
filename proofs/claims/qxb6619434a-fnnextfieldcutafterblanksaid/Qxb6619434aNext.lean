/-
  SEAT b6619434a: CONTRACTS SHARED BY THE TWO LAWS ON nextField: blankB1 (19), zzBytes (18), nextField (25), ZZnextField (20).
-/
import Derived.Test.Qxb6619434aBase
namespace Go.Proofs.Qxb6619434a
open Go.RowKit

def bl (c : Int) : Bool := c == 32 || c == 9

theorem blank_any (c : Int) (w : World) :
    Calls Try.prog 19 #[.int .u8 c] w fun e w' => e = .returned (.bool (bl c)) ∧ w = w' := by
  go_enter Try.func19, Try.ntmps19
  go_wp2
  all_goals go_ret
  · have h : c = 32 := ‹_›
    subst h
    exact ⟨rfl, rfl⟩
  · have h : (c == 32) = false := by simpa using ‹¬ c = 32›
    exact ⟨ret_bool (by simp [bl, h]), rfl⟩

theorem bytes18_yes (a : Option Addr) (n c : Nat) (w : World) (h1 : n ≤ 1048576) :
    Calls Try.prog 18 #[.slice a n c] w fun e w' => e = .returned (.bool true) ∧ w = w' := by
  go_enter Try.func18, Try.ntmps18
  go_wp2
  go_ret
  exact ⟨rfl, rfl⟩

theorem bytes18_no (a : Option Addr) (n c : Nat) (w : World) (h1 : 1048576 < n) :
    Calls Try.prog 18 #[.slice a n c] w fun e w' => e = .returned (.bool false) ∧ w = w' := by
  go_enter Try.func18, Try.ntmps18
  go_wp2
  go_ret
  exact ⟨rfl, rfl⟩

/-- WHAT nextField FINDS: blanks before 'i', none from 'i' to 'j', a blank (or the end) at 'j'; where nothing was found the end is reached. -/
structure NF (zs : List Int) (i j : Nat) : Prop where
  ij : i ≤ j
  jn : j ≤ zs.length
  pre : ∀ t, t < i → bl (zs.getD t 0) = true
  mid : ∀ t, i ≤ t → t < j → bl (zs.getD t 0) = false
  stop : j < zs.length → bl (zs.getD j 0) = true
  emp : i = j → j = zs.length

theorem bl_true {c : Int} (h : bl c = true) : c = 32 ∨ c = 9 := by simpa [bl] using h
theorem bl_false {c : Int} (h : bl c = false) : (c == 32) = false ∧ (c == 9) = false ∧ (c != 32) = true ∧ (c != 9) = true := by
  have h' : ¬ c = 32 ∧ ¬ c = 9 := by simpa [bl] using h
  simp [h'.1, h'.2]

/-- nextField's answer. -/
def NFOut (b off : Nat) (zs : List Int) (w : World) (e : Ending) (w' : World) : Prop := ∃ i j a1 c1 a2 c2, NF zs i j ∧ e = .returned (.tuple #[.slice a1 (j - i) c1, .slice a2 (zs.length - j) c2]) ∧
      (i < j → a1 = some ⟨b, off + i, none⟩) ∧ (j < zs.length → a2 = some ⟨b, off + j, none⟩) ∧ zs.length - j ≤ c2 ∧ Drew w w'
theorem nfout_mk {b off : Nat} {zs : List Int} {w w' : World} {k m n1 n2 c1 c2 : Nat} {a1 a2 : Option Addr} (h : NF zs k m) (v1 v2 : Value) (h1 : v1 = .slice a1 n1 c1) (hn1 : n1 = m - k) (h2 : v2 = .slice a2 n2 c2) (hn2 : n2 = zs.length - m)
    (ha1 : k < m → a1 = some ⟨b, off + k, none⟩) (ha2 : m < zs.length → a2 = some ⟨b, off + m, none⟩) (hc2 : zs.length - m ≤ c2) (hw : Drew w w') : NFOut b off zs w (.returned (.tuple #[v1, v2])) w' := by
  subst h1 h2 hn1 hn2
  exact ⟨k, m, _, _, _, _, h, rfl, ha1, ha2, hc2, hw⟩

set_option maxHeartbeats 400000 in
theorem nextField_any (b off c : Nat) (zs : List Int) (w : World) (hn : zs.length ≤ 1048576) (hc : zs.length ≤ c)
    (hcell : Row w b off zs) :
    Calls Try.prog 25 #[.slice (some ⟨b, off, none⟩) zs.length c] w (NFOut b off zs w) := by
  go_enter Try.func25, Try.ntmps25
  go_wp2
  go_loop [4] (fun i => ∃ k : Nat, k ≤ zs.length ∧ i = .int .i64 k ∧ Hid (∀ t, t < k → bl (zs.getD t 0) = true)) (fun i => zs.length - (intOf i).toNat)
  case atStart => exact ⟨0, Nat.zero_le _, rfl, fun t h => absurd h (Nat.not_lt_zero _)⟩
  case round =>
    obtain ⟨k, hk, rfl, Hpre⟩ := hrel
    by_cases hgo : k < zs.length ∧ bl (zs.getD k 0) = true
    · obtain ⟨hlt, hb⟩ := hgo
      have hck := hcell k hlt
      have HP : Hid (∀ t, t < k + 1 → bl (zs.getD t 0) = true) := fun t ht => by
        by_cases e : t = k
        · rw [e]; exact hb
        · exact Hpre.out t (by omega)
      rcases bl_true hb with h32 | h9
      · rw [h32] at hck
        clear hb h32
        go_wp2
        go_round
        case rel => exact ⟨k + 1, by omega, by go_num, HP⟩
        case measure => simp [intOf]; omega
      · rw [h9] at hck
        clear hb h9
        go_wp2
        go_round
        case rel => exact ⟨k + 1, by omega, by go_num, HP⟩
        case measure => simp [intOf]; omega
    · have HS : Hid (k < zs.length → bl (zs.getD k 0) = false) := fun h => by
        cases e : bl (zs.getD k 0) with
        | true => exact absurd ⟨h, e⟩ hgo
        | false => rfl
      clear hgo
      by_cases hlt : k < zs.length
      all_goals try (have hck := hcell k hlt; obtain ⟨x, hx⟩ : ∃ x, x = zs.getD k 0 := ⟨_, rfl⟩; obtain ⟨n32, n9, m32, m9⟩ := bl_false (HS.out hlt); rw [← hx] at n32 n9 m32 m9 hck; clear hx)
      all_goals go_wp2
      all_goals try clear hlt n32 n9 m32 m9 hck
      all_goals try clear hlt
      all_goals
        go_loop [5] (fun i => ∃ m : Nat, k ≤ m ∧ m ≤ zs.length ∧ i = .int .i64 m ∧ Hid (∀ t, k ≤ t → t < m → bl (zs.getD t 0) = false)) (fun i => zs.length - (intOf i).toNat)
        case atStart => exact ⟨k, Nat.le_refl _, hk, rfl, fun t h h' => absurd h (by omega)⟩
        case round =>
          obtain ⟨m, hkm, hm, rfl, Hmid⟩ := hrel
          by_cases hgo : m < zs.length ∧ bl (zs.getD m 0) = false
          · obtain ⟨hlt, hb⟩ := hgo
            have hck := hcell m hlt
            have HP : Hid (∀ t, k ≤ t → t < m + 1 → bl (zs.getD t 0) = false) := fun t h1 ht => by
              by_cases e : t = m
              · rw [e]; exact hb
              · exact Hmid.out t h1 (by omega)
            obtain ⟨x, hx⟩ : ∃ x, x = zs.getD m 0 := ⟨_, rfl⟩
            obtain ⟨n32, n9, m32, m9⟩ := bl_false hb
            rw [← hx] at n32 n9 m32 m9 hck
            clear hx hb
            go_wp2
            go_round
            case rel => exact ⟨m + 1, by omega, by omega, by go_num, HP⟩
            case measure => simp [intOf]; omega
          · have HE : Hid (m < zs.length → bl (zs.getD m 0) = true) := fun h => by
              cases e : bl (zs.getD m 0) with
              | false => exact absurd ⟨h, e⟩ hgo
              | true => rfl
            clear hgo
            have HN : Hid (NF zs k m) := ⟨hkm, hm, Hpre.out, Hmid.out, HE.out, fun e => by
              subst e
              by_cases h : k < zs.length
              · have h1 := HE.out h
                rw [HS.out h] at h1
                cases h1
              · omega⟩
            clear HS Hpre Hmid
            by_cases hlt : m < zs.length
            · have hck := hcell m hlt
              rcases bl_true (HE.out hlt) with h32 | h9
              · rw [h32] at hck
                clear h32
                go_wp2
                clear hck
                go_quiet (fail)
                go_wp2
                go_ret2
                exact nfout_mk HN.out _ _ rfl rfl rfl rfl (fun _ => rfl) (fun _ => rfl) (by omega) ((Drew.refl _).more _)
              · rw [h9] at hck
                clear h9
                go_wp2
                clear hck
                go_quiet (fail)
                go_wp2
                go_ret2
                exact nfout_mk HN.out _ _ rfl rfl rfl rfl (fun _ => rfl) (fun _ => rfl) (by omega) ((Drew.refl _).more _)
            · go_wp2
              go_quiet (fail)
              go_wp2
              all_goals go_ret2
              all_goals exact nfout_mk HN.out _ _ rfl (by omega) rfl (by omega) (fun h => by first | rfl | (exfalso; omega) | rw [if_neg (by omega)]) (fun h => absurd h hlt) (by omega) ((Drew.refl _).more _)

set_option maxHeartbeats 400000 in
theorem nextField_none (b off c : Nat) (a : Option Addr) (w : World) :
    Calls Try.prog 25 #[.slice a 0 c] w (NFOut b off [] w) := by
  have HN : Hid (NF [] 0 0) := ⟨Nat.le_refl _, Nat.le_refl _, fun t h => absurd h (Nat.not_lt_zero _), fun t _ h => absurd h (Nat.not_lt_zero _), fun h => absurd h (Nat.not_lt_zero _), fun _ => rfl⟩
  go_enter Try.func25, Try.ntmps25
  go_wp2
  refine wp_loop_rounds 1 ?_
  rw [rounds_succ]
  go_wp2
  refine wp_loop_rounds 1 ?_
  rw [rounds_succ]
  go_wp2
  go_quiet (fail)
  go_wp2
  all_goals go_ret2
  all_goals exact nfout_mk HN.out _ _ rfl rfl rfl rfl (fun h => absurd h (Nat.not_lt_zero _)) (fun h => absurd h (Nat.not_lt_zero _)) (Nat.zero_le _) ((Drew.refl _).more _)

theorem nextField_at (b off c : Nat) (a : Option Addr) (zs : List Int) (w : World) (hn : zs.length ≤ 1048576) (hc : zs.length ≤ c) (ha : 0 < zs.length → a = some ⟨b, off, none⟩)
    (hcell : Row w b off zs) :
    Calls Try.prog 25 #[.slice a zs.length c] w (NFOut b off zs w) := by
  by_cases h : 0 < zs.length
  · rw [ha h]; exact nextField_any b off c zs w hn hc hcell
  · have h0 : zs = [] := List.eq_nil_of_length_eq_zero (by omega)
    subst h0
    exact nextField_none b off c a w

theorem nextField_zz (b off c : Nat) (a : Option Addr) (zs : List Int) (w : World) (hn : zs.length ≤ 1048576) (hc : zs.length ≤ c) (ha : 0 < zs.length → a = some ⟨b, off, none⟩)
    (hcell : Row w b off zs) :
    Calls Try.prog 20 #[.slice a zs.length c] w (NFOut b off zs w) := by
  have HA : Hid (0 < zs.length → a = some ⟨b, off, none⟩) := ha
  clear ha
  go_enter Try.func20, Try.ntmps20
  go_wp2_with fail
  refine (nextField_at b off c a zs w hn hc HA.out hcell).mono ?_
  rintro e w' ⟨i, j, a1, c1, a2, c2, hN, rfl, h1, h2, h3, hw⟩
  have HN : Hid (NF zs i j) := hN
  have H1 : Hid (i < j → a1 = some ⟨b, off + i, none⟩) := h1
  have H2 : Hid (j < zs.length → a2 = some ⟨b, off + j, none⟩) := h2
  clear hN h1 h2
  go_wp2
  go_ret2
  exact nfout_mk HN.out _ _ rfl rfl rfl rfl H1.out H2.out h3 hw

/-- nextField on the part of 'zs' that begins at 'p', said of places in 'zs'. -/
structure NFp (zs : List Int) (p i j : Nat) : Prop where
  pi : p ≤ i
  ij : i ≤ j
  jn : j ≤ zs.length
  pre : ∀ t, p ≤ t → t < i → bl (zs.getD t 0) = true
  mid : ∀ t, i ≤ t → t < j → bl (zs.getD t 0) = false
  stop : j < zs.length → bl (zs.getD j 0) = true
  emp : i = j → j = zs.length
def NFpOut (b off : Nat) (zs : List Int) (p : Nat) (w : World) (e : Ending) (w' : World) : Prop := ∃ i j a1 c1 a2 c2, NFp zs p i j ∧ e = .returned (.tuple #[.slice a1 (j - i) c1, .slice a2 (zs.length - j) c2]) ∧
      (i < j → a1 = some ⟨b, off + i, none⟩) ∧ (j < zs.length → a2 = some ⟨b, off + j, none⟩) ∧ zs.length - j ≤ c2 ∧ Drew w w'
theorem nextField_from (b off c p : Nat) (a : Option Addr) (zs : List Int) (w : World) (hp : p ≤ zs.length) (hn : zs.length ≤ 1048576) (hc : zs.length - p ≤ c) (ha : p < zs.length → a = some ⟨b, off + p, none⟩)
    (hcell : Row w b off zs) : Calls Try.prog 20 #[.slice a (zs.length - p) c] w (NFpOut b off zs p w) := by
  have hl : (zs.drop p).length = zs.length - p := List.length_drop
  rw [← hl]
  refine (nextField_zz b (off + p) c a (zs.drop p) w (by omega) (by omega) (fun h => ha (by omega)) (hcell.drop p)).mono ?_
  rintro e w' ⟨i, j, a1, c1, a2, c2, hN, rfl, h1, h2, h3, hw⟩
  have hjn := hN.jn
  rw [hl] at hjn h2 h3
  have g : ∀ t, p ≤ t → zs.getD t 0 = (zs.drop p).getD (t - p) 0 := fun t ht => by rw [getD_drop, show p + (t - p) = t by omega]
  have hij := hN.ij
  refine ⟨p + i, p + j, a1, c1, a2, c2, ⟨by omega, by omega, by omega, ?_, ?_, ?_, ?_⟩, ?_, ?_, ?_, by omega, hw⟩
  · intro t ht h
    rw [g t ht]
    exact hN.pre _ (by omega)
  · intro t ht h
    rw [g t (by omega)]
    exact hN.mid _ (by omega) (by omega)
  · intro h
    rw [g _ (by omega), show p + j - p = j by omega]
    exact hN.stop (by omega)
  · intro h
    have := hN.emp (by omega)
    omega
  · rw [show p + j - (p + i) = j - i by omega, show zs.length - (p + j) = (zs.drop p).length - j by omega]
  · intro h
    rw [h1 (by omega), Nat.add_assoc]
  · intro h
    rw [h2 (by omega), Nat.add_assoc]

end Go.Proofs.Qxb6619434a
