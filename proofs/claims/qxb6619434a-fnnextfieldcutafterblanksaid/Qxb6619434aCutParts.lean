/-
  SEAT b6619434a: WHAT FnNextFieldCutAfterBlank (7) STANDS ON: zzBytes (21), eqB1 (22); what nextField finds in a text that is cut; rows that the call owns.
-/
import Derived.Test.Qxb6619434aNext
import Derived.Test.Qxb6619434aAppend
namespace Go.Proofs.Qxb6619434a
open Go.RowKit

theorem bytes21_yes (a a' : Option Addr) (n c n' c' : Nat) (w : World) (h1 : n + n' ≤ 1048576) :
    Calls Try.prog 21 #[.slice a n c, .slice a' n' c'] w fun e w' => e = .returned (.bool true) ∧ w = w' := by
  have g1 : n ≤ 1048576 := by omega
  have g2 : n' ≤ 1048576 := by omega
  go_enter Try.func21, Try.ntmps21
  go_wp2
  go_ret
  exact ⟨rfl, rfl⟩

theorem bytes21_no (a a' : Option Addr) (n c n' c' : Nat) (w : World) (h1 : 1048576 < n + n') (hn : n ≤ 9223372036854775807) (hn' : n' ≤ 9223372036854775807) :
    Calls Try.prog 21 #[.slice a n c, .slice a' n' c'] w fun e w' => e = .returned (.bool false) ∧ w = w' := by
  by_cases g1 : n ≤ 1048576
  · by_cases g2 : n' ≤ 1048576
    · go_enter Try.func21, Try.ntmps21
      go_wp2
      go_ret
      exact ⟨rfl, rfl⟩
    · go_enter Try.func21, Try.ntmps21
      go_wp2
      go_ret
      exact ⟨rfl, rfl⟩
  · go_enter Try.func21, Try.ntmps21
    go_wp2
    go_ret
    exact ⟨rfl, rfl⟩

/-- A counter up to n, in a world that has drawn. -/
def CntW (n : Nat) (w : World) (v : Value) (wr : World) : Prop := ∃ m : Nat, m ≤ n ∧ v = .int .i64 m ∧ Drew w wr

set_option maxHeartbeats 400000 in
theorem eq_any (b off c b' off' c' : Nat) (zs : List Int) (w : World) (hn : zs.length ≤ 9223372036854775806) (h1 : Row w b off zs) (h2 : Row w b' off' zs) :
    Calls Try.prog 22 #[.slice (some ⟨b, off, none⟩) zs.length c, .slice (some ⟨b', off', none⟩) zs.length c'] w fun e w' => e = .returned (.bool true) ∧ Drew w w' := by
  go_enter Try.func22, Try.ntmps22
  go_wp2
  go_loopw [5] (fun v wr => CntW zs.length w v wr) (fun v _ => zs.length - (intOf v).toNat)
  case atStart => exact ⟨0, Nat.zero_le _, rfl, Drew.refl _⟩
  case round =>
    obtain ⟨m, hm, rfl, hw⟩ := hrel
    by_cases hlt : m < zs.length
    · have hck := (h1.drew hw) m hlt
      have hck2 := (h2.drew hw) m hlt
      obtain ⟨x, hx⟩ : ∃ x, x = zs.getD m 0 := ⟨_, rfl⟩
      rw [← hx] at hck hck2
      clear hx
      go_wp2
      go_quiet (fail)
      go_wp2
      go_roundw
      case rel => exact ⟨m + 1, by omega, by go_num, hw.more _⟩
      case measure => simp [intOf]; omega
    · go_wp2
      go_ret
      exact ⟨rfl, hw⟩

theorem eq_nil (a a' : Option Addr) (c c' : Nat) (w : World) :
    Calls Try.prog 22 #[.slice a 0 c, .slice a' 0 c'] w fun e w' => e = .returned (.bool true) ∧ Drew w w' := by
  go_enter Try.func22, Try.ntmps22
  go_wp2
  refine wp_loop_rounds 1 ?_
  rw [rounds_succ]
  go_wp2
  go_ret
  exact ⟨rfl, Drew.refl _⟩

theorem eq_at (a a' : Option Addr) (b off c b' off' c' n : Nat) (zs : List Int) (w : World) (hz : zs.length = n) (hn : n ≤ 9223372036854775806) (ha : 0 < n → a = some ⟨b, off, none⟩) (ha' : 0 < n → a' = some ⟨b', off', none⟩)
    (h1 : Row w b off zs) (h2 : Row w b' off' zs) :
    Calls Try.prog 22 #[.slice a n c, .slice a' n c'] w fun e w' => e = .returned (.bool true) ∧ Drew w w' := by
  subst hz
  by_cases h : 0 < zs.length
  · rw [ha h, ha' h]; exact eq_any b off c b' off' c' zs w hn h1 h2
  · have h0 : zs = [] := List.eq_nil_of_length_eq_zero (by omega)
    subst h0
    exact eq_nil a a' c c' w

/-- What nextField finds is one thing alone. -/
theorem NF.one {zs : List Int} {i j i' j' : Nat} (h : NF zs i j) (h' : NF zs i' j') : i = i' ∧ j = j' := by
  have key : ∀ {i j i' j' : Nat}, NF zs i j → NF zs i' j' → i ≤ i' := by
    intro i j i' j' h h'
    rcases Nat.lt_or_ge i' i with hlt | hge
    · exfalso
      have a := h.pre i' hlt
      by_cases e : i' = j'
      · have := h'.emp e
        have := h.ij
        have := h.jn
        omega
      · have b := h'.mid i' (Nat.le_refl _) (by have := h'.ij; omega)
        rw [a] at b
        cases b
    · exact hge
  have e1 : i = i' := Nat.le_antisymm (key h h') (key h' h)
  subst e1
  have key2 : ∀ {j j' : Nat}, NF zs i j → NF zs i j' → j ≤ j' := by
    intro j j' h h'
    rcases Nat.lt_or_ge j' j with hlt | hge
    · exfalso
      have a := h.mid j' h'.ij hlt
      have b := h'.stop (by have := h.jn; omega)
      rw [a] at b
      cases b
    · exact hge
  exact ⟨rfl, Nat.le_antisymm (key2 h h') (key2 h' h)⟩

theorem getD_app_left (xs ys : List Int) (t : Nat) (h : t < xs.length) : (xs ++ ys).getD t 0 = xs.getD t 0 := by
  simp [List.getD, List.getElem?_append_left h]
theorem getD_app_right (xs ys : List Int) (t : Nat) : (xs ++ ys).getD (xs.length + t) 0 = ys.getD t 0 := by
  simp only [List.getD]
  rw [List.getElem?_append_right (by omega), show xs.length + t - xs.length = t by omega]

/-- The text ends in a blank behind a field: what follows does not matter. -/
theorem NF.field {xs : List Int} (ys : List Int) {i j : Nat} (h : NF xs i j) (hij : i < j) (hj : j < xs.length) : NF (xs ++ ys) i j := by
  refine ⟨h.ij, by simp; omega, ?_, ?_, ?_, ?_⟩
  · intro t ht; rw [getD_app_left _ _ _ (by omega)]; exact h.pre t ht
  · intro t h1 h2; rw [getD_app_left _ _ _ (by omega)]; exact h.mid t h1 h2
  · intro _; rw [getD_app_left _ _ _ hj]; exact h.stop hj
  · intro e; omega
/-- Blanks ahead do not matter. -/
theorem NF.blanks (xs : List Int) {ys : List Int} {i j : Nat} (h : NF ys i j) (hb : ∀ t, t < xs.length → bl (xs.getD t 0) = true) : NF (xs ++ ys) (xs.length + i) (xs.length + j) := by
  have g : ∀ t, xs.length ≤ t → (xs ++ ys).getD t 0 = ys.getD (t - xs.length) 0 := fun t ht => by
    have := getD_app_right xs ys (t - xs.length)
    rwa [show xs.length + (t - xs.length) = t by omega] at this
  have hij := h.ij
  have hjn := h.jn
  refine ⟨by omega, by simp; omega, ?_, ?_, ?_, ?_⟩
  · intro t ht
    rcases Nat.lt_or_ge t xs.length with hlt | hge
    · rw [getD_app_left _ _ _ hlt]; exact hb t hlt
    · rw [g t hge]; exact h.pre _ (by omega)
  · intro t h1 h2; rw [g t (by omega)]; exact h.mid _ (by omega) (by omega)
  · intro hj
    rw [g _ (by omega), show xs.length + j - xs.length = j by omega]
    exact h.stop (by simp at hj; omega)
  · intro e
    have := h.emp (by omega)
    simp; omega

/-- A stretch of a row. -/
def cut (zs : List Int) (i j : Nat) : List Int := (zs.drop i).take (j - i)
theorem cut_length (zs : List Int) (i j : Nat) (hj : j ≤ zs.length) : (cut zs i j).length = j - i := by simp [cut]; omega
theorem Row.cut {w : World} {b off : Nat} {zs : List Int} (h : Row w b off zs) (i j : Nat) (hij : i ≤ j) (hj : j ≤ zs.length) : Row w b (off + i) (cut zs i j) := by
  intro t ht
  rw [cut_length zs i j hj] at ht
  rw [Nat.add_assoc, h (i + t) (by omega)]
  simp [Go.Proofs.Qxb6619434a.cut, List.getD, ht]
theorem cut_left (xs ys : List Int) (i j : Nat) (hij : i ≤ j) (hj : j ≤ xs.length) : cut (xs ++ ys) i j = cut xs i j := by
  simp only [cut]
  rw [List.drop_append_of_le_length (by omega), List.take_append_of_le_length (by simp; omega)]
theorem cut_right (xs ys : List Int) (i j : Nat) : cut (xs ++ ys) (xs.length + i) (xs.length + j) = cut ys i j := by
  simp only [cut]
  rw [List.drop_append, show xs.length + j - (xs.length + i) = j - i by omega, show xs.length + i - xs.length = i by omega, List.drop_eq_nil_of_le (by omega)]
  rfl
theorem drop_left (xs ys : List Int) (j : Nat) (hj : j ≤ xs.length) : (xs ++ ys).drop j = xs.drop j ++ ys := List.drop_append_of_le_length hj
theorem drop_right (xs ys : List Int) (j : Nat) : (xs ++ ys).drop (xs.length + j) = ys.drop j := by
  rw [List.drop_append]; simp

end Go.Proofs.Qxb6619434a
