/-
  SEAT b6619434a: THE NUMBER AUTOMATON: numStepB1 (12), numAcceptB1 (13), skipDigits (26); where the automaton stops (End), and that it stops in one place alone.
-/
import Derived.Test.Qxb6619434aHex
import Derived.Deep.DeepCutAuto
import Derived.Deep.Light
namespace Go.Proofs.Qxb6619434a
open Go.RowKit

theorem ret_int {k : IntKind} {a b : Int} (h : a = b) : Ending.returned (.int k a) = .returned (.int k b) := by rw [h]

/-- One step of the number automaton. -/
def step (st c : Int) : Int :=
  if st = 0 then (if c = 45 then 1 else if c = 48 then 2 else if 49 ≤ c ∧ c ≤ 57 then 3 else -1)
  else if st = 1 then (if c = 48 then 2 else if 49 ≤ c ∧ c ≤ 57 then 3 else -1)
  else if st = 2 then (if c = 46 then 4 else if c = 101 ∨ c = 69 then 6 else -1)
  else if st = 3 then (if 48 ≤ c ∧ c ≤ 57 then 3 else if c = 46 then 4 else if c = 101 ∨ c = 69 then 6 else -1)
  else if st = 4 then (if 48 ≤ c ∧ c ≤ 57 then 5 else -1)
  else if st = 5 then (if 48 ≤ c ∧ c ≤ 57 then 5 else if c = 101 ∨ c = 69 then 6 else -1)
  else if st = 6 then (if c = 43 ∨ c = 45 then 7 else if 48 ≤ c ∧ c ≤ 57 then 8 else -1)
  else (if 48 ≤ c ∧ c ≤ 57 then 8 else -1)
def acceptB (st : Int) : Bool := st == 2 || st == 3 || st == 5 || st == 8

theorem st_cases {st : Int} (h0 : 0 ≤ st) (h8 : st ≤ 8) : st = 0 ∨ st = 1 ∨ st = 2 ∨ st = 3 ∨ st = 4 ∨ st = 5 ∨ st = 6 ∨ st = 7 ∨ st = 8 := by omega
theorem step_bd (st c : Int) : step st c ≤ 8 ∧ -1 ≤ step st c := by
  unfold step
  repeat' split
  all_goals decide

theorem accept_any (st : Int) (w : World) (h0 : 0 ≤ st) (h8 : st ≤ 8) : Calls Try.prog 13 #[.int .i64 st] w fun e w' => e = .returned (.bool (acceptB st)) ∧ w = w' := by
  rcases st_cases h0 h8 with rfl | rfl | rfl | rfl | rfl | rfl | rfl | rfl | rfl
  all_goals
    go_enter Try.func13, Try.ntmps13
    go_wp2
    go_ret
    exact ⟨rfl, rfl⟩

theorem dg_not (c : Int) : dg c = false ↔ c < 48 ∨ 57 < c := by
  constructor
  · intro h
    by_cases h1 : 48 ≤ c ∧ c ≤ 57
    · rw [(dg_iff c).2 h1] at h; cases h
    · omega
  · exact dg_no c
theorem step0 (c : Int) : step 0 c = if c = 45 then 1 else if c = 48 then 2 else if 49 ≤ c ∧ c ≤ 57 then 3 else -1 := by unfold step; rfl
theorem step1 (c : Int) : step 1 c = if c = 48 then 2 else if 49 ≤ c ∧ c ≤ 57 then 3 else -1 := by unfold step; rfl
theorem step2 (c : Int) : step 2 c = if c = 46 then 4 else if c = 101 ∨ c = 69 then 6 else -1 := by unfold step; rfl
theorem step3 (c : Int) : step 3 c = if 48 ≤ c ∧ c ≤ 57 then 3 else if c = 46 then 4 else if c = 101 ∨ c = 69 then 6 else -1 := by unfold step; rfl
theorem step4 (c : Int) : step 4 c = if 48 ≤ c ∧ c ≤ 57 then 5 else -1 := by unfold step; rfl
theorem step5 (c : Int) : step 5 c = if 48 ≤ c ∧ c ≤ 57 then 5 else if c = 101 ∨ c = 69 then 6 else -1 := by unfold step; rfl
theorem step6 (c : Int) : step 6 c = if c = 43 ∨ c = 45 then 7 else if 48 ≤ c ∧ c ≤ 57 then 8 else -1 := by unfold step; rfl
theorem step7 (c : Int) : step 7 c = if 48 ≤ c ∧ c ≤ 57 then 8 else -1 := by unfold step; rfl
theorem step8 (c : Int) : step 8 c = if 48 ≤ c ∧ c ≤ 57 then 8 else -1 := by unfold step; rfl

set_option maxHeartbeats 4000000 in
set_option maxRecDepth 100000 in
theorem step_any (st c : Int) (w : World) (h0 : 0 ≤ st) (h8 : st ≤ 8) : Calls Try.prog 12 #[.int .i64 st, .int .u8 c] w fun e w' => e = .returned (.int .i64 (step st c)) ∧ w = w' := by
  rcases st_cases h0 h8 with rfl | rfl | rfl | rfl | rfl | rfl | rfl | rfl | rfl
  all_goals
    clear h0 h8
    go_enter Try.func12, Try.ntmps12
    go_wp2_with (go_at_call 17; refine (digit_any _ _).mono ?_; rintro e w' ⟨rfl, rfl⟩)
    all_goals go_ret
    all_goals refine ⟨ret_int ?_, rfl⟩
    all_goals go_light
    all_goals (try simp only [beq_iff_eq, beq_eq_false_iff_ne, dg_iff, dg_not] at *)
    all_goals (first | rw [step0] | rw [step1] | rw [step2] | rw [step3] | rw [step4] | rw [step5] | rw [step6] | rw [step7] | rw [step8])
    all_goals repeat' split
    all_goals omega

/-- Where skipDigits stops. -/
structure Skip (zs : List Int) (j k : Nat) : Prop where
  le : j ≤ k
  dig : ∀ t, j ≤ t → t < k → t < zs.length ∧ dg (zs.getD t 0) = true
  stop : k < zs.length → dg (zs.getD k 0) = false
theorem Skip.bd {zs : List Int} {j k : Nat} (h : Skip zs j k) : k = j ∨ k ≤ zs.length := by
  rcases Nat.lt_or_ge j k with h1 | h1
  · right
    have := (h.dig (k - 1) (by omega) (by omega)).1
    omega
  · left
    have := h.le
    omega
def SkipOut (zs : List Int) (j : Nat) (w : World) (e : Ending) (w' : World) : Prop := ∃ k : Nat, e = .returned (.int .i64 k) ∧ w = w' ∧ Skip zs j k
def SkipAt (zs : List Int) (j : Nat) (v : Value) : Prop := ∃ k : Nat, j ≤ k ∧ (k = j ∨ k ≤ zs.length) ∧ v = .int .i64 k ∧ ∀ t, j ≤ t → t < k → t < zs.length ∧ dg (zs.getD t 0) = true

set_option maxHeartbeats 400000 in
theorem skip_any (b off c j : Nat) (zs : List Int) (w : World) (hn : zs.length ≤ 2097152) (_hj : j ≤ 9223372036854775807) (hcell : Row w b off zs) :
    Calls Try.prog 26 #[.slice (some ⟨b, off, none⟩) zs.length c, .int .i64 j] w (SkipOut zs j w) := by
  go_enter Try.func26, Try.ntmps26
  go_wp2
  go_loop [1] (fun v => SkipAt zs j v) (fun v => zs.length - (intOf v).toNat)
  case atStart => exact ⟨j, Nat.le_refl _, .inl rfl, rfl, fun t h h' => absurd h (by omega)⟩
  case round =>
    obtain ⟨k, hjk, hkn, rfl, hd⟩ := hrel
    have HD : Hid (∀ t, j ≤ t → t < k → t < zs.length ∧ dg (zs.getD t 0) = true) := hd
    clear hd
    by_cases hlt : k < zs.length
    · have hck := hcell k hlt
      obtain ⟨x, hx⟩ : ∃ x, x = zs.getD k 0 := ⟨_, rfl⟩
      rw [← hx] at hck
      have HX : Hid (x = zs.getD k 0) := hx
      clear hx
      cases hdx : dg x with
      | true =>
        obtain ⟨h1, h2⟩ := (dg_iff x).1 hdx
        have HS : Hid (∀ t, j ≤ t → t < k + 1 → t < zs.length ∧ dg (zs.getD t 0) = true) := fun t h h' => by
          by_cases e : t = k
          · rw [e, ← HX.out]; exact ⟨hlt, hdx⟩
          · exact HD.out t h (by omega)
        clear hkn
        go_wp2
        go_round
        case rel => exact ⟨k + 1, by omega, .inr (by omega), by go_num, HS.out⟩
        case measure => simp [intOf]; omega
      | false =>
        have HF : Hid (dg (zs.getD k 0) = false) := by show _ = _; rw [← HX.out]; exact hdx
        have h3 : decide (48 ≤ x) = false ∨ (48 ≤ x ∧ 57 < x) := by
          rcases (dg_not x).1 hdx with h | h
          · exact .inl (decide_eq_false (by omega))
          · exact .inr ⟨by omega, h⟩
        clear hkn
        rcases h3 with h3 | ⟨h3, h4⟩
        · go_wp2
          go_ret
          exact ⟨k, rfl, rfl, hjk, HD.out, fun _ => HF.out⟩
        · go_wp2
          go_ret
          exact ⟨k, rfl, rfl, hjk, HD.out, fun _ => HF.out⟩
    · clear hkn
      go_wp2
      go_ret
      exact ⟨k, rfl, rfl, hjk, HD.out, fun h => absurd h hlt⟩

/-- The automaton's state behind k bytes from i on; -1: it is stuck. -/
def sts (zs : List Int) (i : Nat) : Nat → Int
  | 0 => 0
  | k + 1 => if sts zs i k < 0 then -1 else step (sts zs i k) (zs.getD (i + k) 0)
/-- From i the automaton comes to p in state st. -/
structure AtS (zs : List Int) (i p : Nat) (st : Int) : Prop where
  le : i ≤ p
  bd : p = i ∨ p ≤ zs.length
  pos : 0 ≤ st
  top : st ≤ 8
  st : sts zs i (p - i) = st
theorem AtS.start (zs : List Int) (i : Nat) : AtS zs i i 0 := ⟨Nat.le_refl _, .inl rfl, by decide, by decide, by rw [Nat.sub_self]; rfl⟩
theorem AtS.next {zs : List Int} {i p : Nat} {st st' : Int} (h : AtS zs i p st) (hp : p < zs.length) (hs : step st (zs.getD p 0) = st') (h0 : 0 ≤ st') : AtS zs i (p + 1) st' := by
  have hle := h.le
  refine ⟨by omega, .inr (by omega), h0, by rw [← hs]; exact (step_bd _ _).1, ?_⟩
  rw [show p + 1 - i = (p - i) + 1 by omega]
  show (if sts zs i (p - i) < 0 then -1 else step (sts zs i (p - i)) (zs.getD (i + (p - i)) 0)) = st'
  rw [h.st, if_neg (by have := h.pos; omega), show i + (p - i) = p by omega, hs]
/-- Digits on which a state stays. -/
theorem AtS.stay {zs : List Int} {i : Nat} {st : Int} (hst : ∀ c, dg c = true → step st c = st) (h0 : 0 ≤ st) : ∀ (d p : Nat), AtS zs i p st → (∀ t, p ≤ t → t < p + d → t < zs.length ∧ dg (zs.getD t 0) = true) → AtS zs i (p + d) st := by
  intro d
  induction d with
  | zero => intro p h _; exact h
  | succ d ih =>
    intro p h hd
    have h1 := h.next (st' := st) (hd p (Nat.le_refl _) (by omega)).1 (hst _ (hd p (Nat.le_refl _) (by omega)).2) h0
    have h2 := ih (p + 1) h1 (fun t a b => hd t (by omega) (by omega))
    rwa [show p + 1 + d = p + (d + 1) by omega] at h2
/-- At least one digit. -/
theorem AtS.digits {zs : List Int} {i p k : Nat} {st st' : Int} (h : AtS zs i p st) (hs : Skip zs p k) (hlt : p < k) (h1 : ∀ c, dg c = true → step st c = st') (h2 : ∀ c, dg c = true → step st' c = st') (h0 : 0 ≤ st') : AtS zs i k st' := by
  have a := h.next (st' := st') (hs.dig p (Nat.le_refl _) hlt).1 (h1 _ (hs.dig p (Nat.le_refl _) hlt).2) h0
  have b := AtS.stay h2 h0 (k - (p + 1)) (p + 1) a (fun t x y => hs.dig t (by omega) (by omega))
  rwa [show p + 1 + (k - (p + 1)) = k by omega] at b
/-- A number's head, then digits. -/
theorem AtS.more {zs : List Int} {i p k : Nat} {st st' : Int} (h : AtS zs i p st) (hs : Skip zs p k) (hlt : p < k) (h1 : step st (zs.getD p 0) = st') (h2 : ∀ c, dg c = true → step st' c = st') (h0 : 0 ≤ st') : AtS zs i k st' := by
  have a := h.next (st' := st') (hs.dig p (Nat.le_refl _) hlt).1 h1 h0
  have b := AtS.stay h2 h0 (k - (p + 1)) (p + 1) a (fun t x y => hs.dig t (by omega) (by omega))
  rwa [show p + 1 + (k - (p + 1)) = k by omega] at b
theorem dig_3 (c : Int) (h : dg c = true) : step 3 c = 3 := by rw [step3, if_pos ((dg_iff c).1 h)]
theorem dig_4 (c : Int) (h : dg c = true) : step 4 c = 5 := by rw [step4, if_pos ((dg_iff c).1 h)]
theorem dig_5 (c : Int) (h : dg c = true) : step 5 c = 5 := by rw [step5, if_pos ((dg_iff c).1 h)]
theorem dig_6 (c : Int) (h : dg c = true) : step 6 c = 8 := by
  have := (dg_iff c).1 h
  rw [step6, if_neg (by omega), if_pos this]
theorem dig_7 (c : Int) (h : dg c = true) : step 7 c = 8 := by rw [step7, if_pos ((dg_iff c).1 h)]
theorem dig_8 (c : Int) (h : dg c = true) : step 8 c = 8 := by rw [step8, if_pos ((dg_iff c).1 h)]

/-- Here the automaton stops: the text is at its end, or no step is left. -/
structure End (zs : List Int) (i p : Nat) (st : Int) : Prop where
  at_ : AtS zs i p st
  stop : p < zs.length → step st (zs.getD p 0) < 0
theorem sts_stuck (zs : List Int) (i k : Nat) (h : sts zs i k < 0) : ∀ d, sts zs i (k + d) < 0 := by
  intro d
  induction d with
  | zero => exact h
  | succ d ih =>
    show (if sts zs i (k + d) < 0 then -1 else step (sts zs i (k + d)) (zs.getD (i + (k + d)) 0)) < 0
    rw [if_pos ih]; decide
theorem End.le {zs : List Int} {i p p' : Nat} {st st' : Int} (h : End zs i p st) (h' : AtS zs i p' st') : p' ≤ p := by
  rcases Nat.lt_or_ge p p' with hlt | hge
  · exfalso
    have l := h.at_.le
    have hp : p < zs.length := by
      rcases h'.bd with e | e
      · omega
      · omega
    have q := h.stop hp
    have s1 : sts zs i (p - i + 1) < 0 := by
      show (if sts zs i (p - i) < 0 then -1 else step (sts zs i (p - i)) (zs.getD (i + (p - i)) 0)) < 0
      rw [h.at_.st, if_neg (by have := h.at_.pos; omega), show i + (p - i) = p by omega]
      exact q
    have s2 := sts_stuck zs i _ s1 (p' - (p + 1))
    rw [show p - i + 1 + (p' - (p + 1)) = p' - i by omega, h'.st] at s2
    have := h'.pos
    omega
  · exact hge
theorem End.one {zs : List Int} {i p p' : Nat} {st st' : Int} (h : End zs i p st) (h' : End zs i p' st') : p = p' ∧ st = st' := by
  have e : p = p' := Nat.le_antisymm (h'.le h.at_) (h.le h'.at_)
  subst e
  exact ⟨rfl, by rw [← h.at_.st, ← h'.at_.st]⟩

end Go.Proofs.Qxb6619434a
