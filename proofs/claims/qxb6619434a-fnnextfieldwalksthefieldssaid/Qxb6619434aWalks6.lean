/-
  SEAT b6619434a: THE WALKS OF FnNextFieldWalksTheFields (6).
-/
import Derived.Test.Qxb6619434aNext
namespace Go.Proofs.Qxb6619434a
open Go.RowKit

/-- A field begins at 't'. -/
def startAt (zs : List Int) (t : Nat) : Bool := !bl (zs.getD t 0) && (t == 0 || bl (zs.getD (t - 1) 0))
/-- How many fields begin before 'k'. -/
def runsTo (zs : List Int) : Nat → Nat
  | 0 => 0
  | k + 1 => runsTo zs k + if startAt zs k then 1 else 0
theorem runsTo_succ (zs : List Int) (k : Nat) : runsTo zs (k + 1) = runsTo zs k + if startAt zs k then 1 else 0 := rfl
theorem runsTo_le (zs : List Int) (k : Nat) : runsTo zs k ≤ k := by
  induction k with
  | zero => exact Nat.le_refl _
  | succ k ih => rw [runsTo_succ]; split <;> omega
/-- No field begins in a stretch of blanks. -/
theorem runsTo_blank (zs : List Int) (p : Nat) : ∀ d, (∀ t, p ≤ t → t < p + d → bl (zs.getD t 0) = true) → runsTo zs (p + d) = runsTo zs p := by
  intro d
  induction d with
  | zero => intro _; rfl
  | succ d ih =>
    intro h
    rw [← Nat.add_assoc, runsTo_succ, ih (fun t h1 h2 => h t h1 (by omega))]
    have e : startAt zs (p + d) = false := by simp only [startAt, h (p + d) (by omega) (by omega)]; rfl
    rw [e]; simp
/-- In a stretch without blanks no field begins behind its head. -/
theorem runsTo_mid (zs : List Int) (p : Nat) : ∀ d, (∀ t, p ≤ t → t < p + d + 1 → bl (zs.getD t 0) = false) → runsTo zs (p + d + 1) = runsTo zs (p + 1) := by
  intro d
  induction d with
  | zero => intro _; rfl
  | succ d ih =>
    intro h
    rw [runsTo_succ, show p + (d + 1) = p + d + 1 by omega, ih (fun t h1 h2 => h t h1 (by omega))]
    have e : startAt zs (p + d + 1) = false := by
      unfold startAt
      rw [h (p + d + 1 - 1) (by omega) (by omega)]
      simp
    rw [e]; simp
/-- A step of the walk over the fields: blanks from p to s, none from s to e, s < e, and s is no field's middle: one field more. -/
theorem runsTo_step (zs : List Int) (p s e : Nat) (hps : p ≤ s) (hse : s < e) (hp : p = 0 ∨ (p < zs.length → bl (zs.getD p 0) = true)) (he : e ≤ zs.length)
    (h1 : ∀ t, p ≤ t → t < s → bl (zs.getD t 0) = true) (h2 : ∀ t, s ≤ t → t < e → bl (zs.getD t 0) = false) : runsTo zs e = runsTo zs p + 1 ∧ (0 < s → bl (zs.getD (s - 1) 0) = true) := by
  have hs : 0 < s → bl (zs.getD (s - 1) 0) = true := by
    intro h0
    by_cases e0 : s = p
    · rcases hp with hp | hp
      · omega
      · have a := h2 s (Nat.le_refl _) hse
        have b := hp (by omega)
        rw [e0] at a
        rw [a] at b
        cases b
    · exact h1 (s - 1) (by omega) (by omega)
  refine ⟨?_, hs⟩
  have a := runsTo_mid zs s (e - s - 1) (fun t h h' => h2 t h (by omega))
  rw [show s + (e - s - 1) + 1 = e by omega] at a
  have b := runsTo_blank zs p (s - p) (fun t h h' => h1 t h (by omega))
  rw [show p + (s - p) = s by omega] at b
  rw [a, runsTo_succ, b]
  have c : startAt zs s = true := by
    unfold startAt
    rw [h2 s (Nat.le_refl _) hse]
    by_cases h0 : s = 0
    · subst h0; rfl
    · rw [hs (by omega)]; simp
  rw [c]; simp
/-- The walk over the fields has come to its end: only blanks are left. -/
theorem runsTo_end (zs : List Int) (p : Nat) (hp : p ≤ zs.length) (h1 : ∀ t, p ≤ t → t < zs.length → bl (zs.getD t 0) = true) : runsTo zs zs.length = runsTo zs p := by
  have b := runsTo_blank zs p (zs.length - p) (fun t h h' => h1 t h (by omega))
  rwa [show p + (zs.length - p) = zs.length by omega] at b

/-- A counter between p and n. -/
def Upto (p n : Nat) (v : Value) : Prop := ∃ m : Nat, p ≤ m ∧ m ≤ n ∧ v = .int .i64 m
/-- A counter between p and n, in a world that has drawn. -/
def UptoW (p n : Nat) (w : World) (v : Value) (wr : World) : Prop := ∃ m : Nat, p ≤ m ∧ m ≤ n ∧ v = .int .i64 m ∧ Drew w wr
theorem quiet_blank (x : Int) (w : World) (n : Nat) : Calls Try.prog 19 #[.int .u8 x] (w.drewN n) fun e w'' => e = .returned (.bool (bl x)) ∧ ∃ m, w'' = w.drewN m :=
  (blank_any x _).mono fun _ _ ⟨he, hm⟩ => ⟨he, n, hm.symm⟩
/-- The head of the loop over the fields. -/
structure At2 (b off : Nat) (zs : List Int) (w : World) (v5 v6 v7 : Value) (wr : World) (p s : Nat) (a : Option Addr) (c : Nat) : Prop where
  pn : p ≤ zs.length
  sp : s ≤ p
  rest : v5 = .slice a (zs.length - p) c
  addr : p < zs.length → a = some ⟨b, off + p, none⟩
  cap : zs.length - p ≤ c
  num : v6 = .int .i64 (runsTo zs p)
  step : v7 = .int .i64 s
  bnd : p = 0 ∨ (p < zs.length → bl (zs.getD p 0) = true)
  world : Drew w wr

set_option maxHeartbeats 4000000 in
set_option maxRecDepth 100000 in
theorem law6_row (b off c : Nat) (zs : List Int) (w : World) (hn : zs.length ≤ 1048576) (hc : zs.length ≤ c) (hcm : c ≤ 9223372036854775807)
    (hcell : Row w b off zs) :
    Calls Try.prog 6 #[.slice (some ⟨b, off, none⟩) zs.length c] w fun e w' => e = .returned (.bool true) ∧ Below w.heap.size w w' := by
  go_enter Try.func6, Try.ntmps6
  go_wp2_with (go_at_call 18; refine (bytes18_yes _ _ _ _ hn).mono ?_; rintro e w' ⟨rfl, rfl⟩)
  go_loop [3, 4] (fun r i => ∃ k : Nat, k ≤ zs.length ∧ i = .int .i64 k ∧ r = .int .i64 (runsTo zs k)) (fun _ i => zs.length - (intOf i).toNat)
  case atStart => exact ⟨0, Nat.zero_le _, rfl, rfl⟩
  case round =>
    obtain ⟨k, hk, rfl, rfl⟩ := hrel
    have hr := runsTo_le zs k
    by_cases hlt : k < zs.length
    · have hck := hcell k hlt
      obtain ⟨x, hx⟩ : ∃ x, x = zs.getD k 0 := ⟨_, rfl⟩
      rw [← hx] at hck
      have HX : Hid (x = zs.getD k 0) := hx
      clear hx
      cases hb : bl x with
      | true =>
        have HR : Hid (runsTo zs (k + 1) = runsTo zs k) := by show _ = _; rw [runsTo_succ, show startAt zs k = false from by simp only [startAt, ← HX.out, hb]; rfl]; simp
        go_wp2_with (go_at_call 19; refine (blank_any _ _).mono ?_; rintro e w' ⟨rfl, rfl⟩)
        go_round
        case rel => exact ⟨k + 1, by omega, by go_num, by rw [HR.out]⟩
        case measure => simp [intOf]; omega
      | false =>
        by_cases hk0 : k = 0
        · subst hk0
          simp only [Nat.add_zero] at hck
          have HR : Hid (runsTo zs (0 + 1) = 1) := by show _ = _; rw [runsTo_succ, show startAt zs 0 = true from by simp only [startAt, ← HX.out, hb]; rfl]; simp [runsTo]
          go_wp2_with (go_at_call 19; refine (blank_any _ _).mono ?_; rintro e w' ⟨rfl, rfl⟩)
          go_round
          case rel => exact ⟨0 + 1, by omega, by go_num, by rw [HR.out]; rfl⟩
          case measure => simp [intOf]; omega
        · have hcj := hcell (k - 1) (by omega)
          obtain ⟨y, hy⟩ : ∃ y, y = zs.getD (k - 1) 0 := ⟨_, rfl⟩
          rw [← hy] at hcj
          have HY : Hid (y = zs.getD (k - 1) 0) := hy
          clear hy
          have hk0' : ((k : Int) == 0) = false := by simp; omega
          cases hby : bl y with
          | true =>
            have HR : Hid (runsTo zs (k + 1) = runsTo zs k + 1) := by show _ = _; rw [runsTo_succ, show startAt zs k = true from by simp only [startAt, ← HX.out, hb, ← HY.out, hby]; simp]; simp
            go_wp2_with (go_at_call 19; refine (blank_any _ _).mono ?_; rintro e w' ⟨rfl, rfl⟩)
            all_goals go_round
            case rel => exact ⟨k + 1, by omega, by go_num, by rw [HR.out]; go_num⟩
            case measure => simp [intOf]; omega
          | false =>
            have HR : Hid (runsTo zs (k + 1) = runsTo zs k) := by show _ = _; rw [runsTo_succ, show startAt zs k = false from by simp only [startAt, ← HX.out, hb, ← HY.out, hby]; simp [hk0]]; simp
            go_wp2_with (go_at_call 19; refine (blank_any _ _).mono ?_; rintro e w' ⟨rfl, rfl⟩)
            go_round
            case rel => exact ⟨k + 1, by omega, by go_num, by rw [HR.out]⟩
            case measure => simp [intOf]; omega
    · have HK : Hid (k = zs.length) := show k = zs.length from by omega
      go_wp2
      go_loopw [5, 6, 7] (fun v5 v6 v7 wr => ∃ p s a c', At2 b off zs w v5 v6 v7 wr p s a c') (fun _ _ v7 _ => zs.length + 1 - (intOf v7).toNat)
      case atStart => exact ⟨0, 0, _, _, Nat.zero_le _, Nat.le_refl _, rfl, fun _ => rfl, hc, rfl, rfl, .inl rfl, Drew.refl _⟩
      case round =>
        obtain ⟨p, s, a, c', hpn, hsp, rfl, haddr, hcap, rfl, rfl, hbnd, hw⟩ := hrel
        have HA : Hid (p < zs.length → a = some ⟨b, off + p, none⟩) := haddr
        have HB : Hid (p = 0 ∨ (p < zs.length → bl (zs.getD p 0) = true)) := hbnd
        have hrow := hcell.drew hw
        have hrp := runsTo_le zs p
        have hsn : s ≤ zs.length := Nat.le_trans hsp hpn
        clear haddr hbnd
        go_wp2_with fail
        refine (nextField_from b off c' p a zs wr hpn hn hcap HA.out hrow).mono ?_
        rintro e w1 ⟨i, j, a1, c1, a2, c2, hN, rfl, h1, h2, h3, hw1⟩
        have HN : Hid (NFp zs p i j) := hN
        have H1 : Hid (i < j → a1 = some ⟨b, off + i, none⟩) := h1
        have H2 : Hid (j < zs.length → a2 = some ⟨b, off + j, none⟩) := h2
        have hrow1 := hrow.drew hw1
        have hw2 := hw.trans hw1
        have hpi := hN.pi
        have hij := hN.ij
        have hjn := hN.jn
        clear hN h1 h2 hrow hw1 hw HA
        by_cases he : i = j
        · have hj : j = zs.length := HN.out.emp he
          have Hbl : Hid (∀ t, p ≤ t → t < zs.length → bl (zs.getD t 0) = true) := fun t h h' => HN.out.pre t h (by omega)
          have HR : Hid (runsTo zs k = runsTo zs p) := by
            show _ = _
            rw [HK.out]; exact runsTo_end zs p hpn Hbl.out
          clear HN H1 H2
          subst he
          subst hj
          simp only [Nat.sub_self]
          go_wp2
          go_loop [11] (fun v => Upto p zs.length v) (fun v => zs.length - (intOf v).toNat)
          case atStart => exact ⟨p, Nat.le_refl _, hpn, by go_num⟩
          case round =>
            obtain ⟨m, hpm, hm, rfl⟩ := hrel
            by_cases hlt3 : m < zs.length
            · have hck := hrow1 m hlt3
              have hb := Hbl.out m hpm hlt3
              obtain ⟨x, hx⟩ : ∃ x, x = zs.getD m 0 := ⟨_, rfl⟩
              rw [← hx] at hck hb
              clear hx
              go_wp2_with (go_at_call 19; refine (blank_any _ _).mono ?_; rintro e w' ⟨rfl, rfl⟩)
              go_round
              case rel => exact ⟨m + 1, by omega, by omega, by go_num⟩
              case measure => simp [intOf]; omega
            · go_wp2
              go_ret
              exact ⟨ret_bool (by rw [HR.out]; simp), hw2.below _⟩
        · have hlij : i < j := by omega
          have ha1 := H1.out hlij
          subst ha1
          have HS := runsTo_step zs p i j hpi hlij HB.out hjn HN.out.pre HN.out.mid
          have HR : Hid (runsTo zs j = runsTo zs p + 1) := HS.1
          have HI : Hid (0 < i → bl (zs.getD (i - 1) 0) = true) := HS.2
          have Hpre : Hid (∀ t, p ≤ t → t < i → bl (zs.getD t 0) = true) := HN.out.pre
          have Hmid : Hid (∀ t, i ≤ t → t < j → bl (zs.getD t 0) = false) := HN.out.mid
          have Hstop : Hid (j < zs.length → bl (zs.getD j 0) = true) := HN.out.stop
          clear HS HN H1 HB HK
          have e10 : ((zs.length : Int) - ((zs.length - p : Nat) : Int)) = (p : Int) := by omega
          have e12 : ((zs.length : Int) - ((zs.length - j : Nat) : Int)) = (j : Int) := by omega
          have e13 : ((j : Int) - ((j - i : Nat) : Int)) = (i : Int) := by omega
          have hg0 : (((j - i : Nat) : Int) == 0) = false := by simp; omega
          have hg1 : decide (zs.length - p < zs.length - j) = false := decide_eq_false (by omega)
          have hg1' : decide (((zs.length - p : Nat) : Int) < ((zs.length - j : Nat) : Int)) = false := decide_eq_false (by omega)
          have hg2 : decide (((zs.length - p : Nat) : Int) - ((zs.length - j : Nat) : Int) < ((j - i : Nat) : Int)) = false := decide_eq_false (by omega)
          go_wp2
          clear e10 e12 e13
          go_loop [14] (fun v => Upto p i v) (fun v => i - (intOf v).toNat)
          case atStart => exact ⟨p, Nat.le_refl _, hpi, rfl⟩
          case round =>
            obtain ⟨m, hpm, hm, rfl⟩ := hrel
            by_cases hlt4 : m < i
            · have hck := hrow1 m (by omega)
              have hb := Hpre.out m hpm hlt4
              obtain ⟨x, hx⟩ : ∃ x, x = zs.getD m 0 := ⟨_, rfl⟩
              rw [← hx] at hck hb
              clear hx
              go_wp2_with (go_at_call 19; refine (blank_any _ _).mono ?_; rintro e w' ⟨rfl, rfl⟩)
              go_round
              case rel => exact ⟨m + 1, by omega, by omega, by go_num⟩
              case measure => simp [intOf]; omega
            · go_wp2
              clear hpm hm hlt4 Hpre
              go_loopw [15] (fun v wr => UptoW 0 (j - i) w v wr) (fun v _ => (j - i) - (intOf v).toNat)
              case atStart => exact ⟨0, Nat.le_refl _, Nat.zero_le _, rfl, hw2⟩
              case round =>
                obtain ⟨m5, _, hm5, rfl, hw5⟩ := hrel
                have hrow5 := hcell.drew hw5
                by_cases hlt5 : m5 < j - i
                · obtain ⟨t, ht⟩ : ∃ t : Nat, t = i + m5 := ⟨_, rfl⟩
                  have hck := hrow5 t (by omega)
                  have hck2 : wr.cell? ⟨b, off + i + m5, none⟩ = some (.int .u8 (zs.getD t 0)) := by rw [Nat.add_assoc, ← ht]; exact hck
                  have hb := Hmid.out t (by omega) (by omega)
                  obtain ⟨x, hx⟩ : ∃ x, x = zs.getD t 0 := ⟨_, rfl⟩
                  rw [← hx] at hck hck2 hb
                  have hbd : t < zs.length := by omega
                  have hsum : (i : Int) + (m5 : Int) = (t : Int) := by omega
                  have hwrp : IntKind.i64.wrap (t : Int) = (t : Int) := IntWalk.i64_in _ (by omega)
                  clear hx ht
                  go_wp2
                  go_quiet ((go_at_call 19; exact quiet_blank _ _ _))
                  go_wp2
                  go_roundw
                  case rel => exact ⟨m5 + 1, by omega, by omega, by go_num, hw5.more _⟩
                  case measure => simp [intOf]; omega
                · have Hend : Hid (j < zs.length → bl (zs.getD j 0) = true) := Hstop
                  have hj1 : j < zs.length ∨ (¬ j < zs.length ∧ decide (j < zs.length) = false ∧ decide ((j : Int) < (zs.length : Int)) = false) := by
                    by_cases h : j < zs.length
                    · exact .inl h
                    · exact .inr ⟨h, decide_eq_false h, decide_eq_false (by omega)⟩
                  have hi1 : (0 < i ∧ ∃ y, wr.cell? ⟨b, off + (i - 1), none⟩ = some (.int .u8 y) ∧ bl y = true) ∨ (¬ 0 < i ∧ decide (0 < i) = false ∧ decide ((0 : Int) < (i : Int)) = false) := by
                    by_cases h : 0 < i
                    · exact .inl ⟨h, _, hrow5 (i - 1) (by omega), HI.out h⟩
                    · exact .inr ⟨h, decide_eq_false h, decide_eq_false (by omega)⟩
                  have hs1 : (((s : Int) == 0) = true) ∨ (((s : Int) == 0) = false) := by cases ((s : Int) == 0) <;> simp
                  clear Hmid Hstop
                  rcases hi1 with ⟨hi0, y, hcy, hby⟩ | ⟨hi0, hi2, hi3⟩
                  all_goals rcases hj1 with hj1 | ⟨hj1, hj2, hj3⟩
                  all_goals try (have hcz := hrow5 j hj1; have hbz := Hend.out hj1; obtain ⟨z, hz⟩ : ∃ z, z = zs.getD j 0 := ⟨_, rfl⟩; rw [← hz] at hcz hbz; clear hz; have ha2 := H2.out hj1; subst ha2)
                  all_goals rcases hs1 with hs1 | hs1
                  all_goals go_wp2_with (go_at_call 19; refine (blank_any _ _).mono ?_; rintro e w' ⟨rfl, rfl⟩)
                  all_goals try clear hi2 hi3
                  all_goals try clear hj2 hj3
                  all_goals try clear hcy hby
                  all_goals try clear hcz hbz
                  all_goals first
                    | (go_roundw
                       case rel => exact ⟨j, s + 1, _, _, hjn, by omega, rfl, fun h => by first | rfl | exact absurd h hj1, h3, by rw [HR.out]; go_num, by go_num, .inr Hend.out, hw5⟩
                       case measure => simp [intOf]; omega)
                    | (go_loopw [16] (fun v wr => UptoW 0 (zs.length - j) w v wr) (fun v _ => (zs.length - j) - (intOf v).toNat)
                       case atStart => exact ⟨0, Nat.le_refl _, Nat.zero_le _, rfl, hw5⟩
                       case round =>
                         obtain ⟨m6, _, hm6, rfl, hw6⟩ := hrel
                         have hrow6 := hcell.drew hw6
                         by_cases hlt6 : m6 < zs.length - j
                         · obtain ⟨t, ht⟩ : ∃ t : Nat, t = j + m6 := ⟨_, rfl⟩
                           have hck := hrow6 t (by omega)
                           have hck2 : wr.cell? ⟨b, off + j + m6, none⟩ = some (.int .u8 (zs.getD t 0)) := by rw [Nat.add_assoc, ← ht]; exact hck
                           obtain ⟨x, hx⟩ : ∃ x, x = zs.getD t 0 := ⟨_, rfl⟩
                           rw [← hx] at hck hck2
                           have hbd : t < zs.length := by omega
                           have hsum : (j : Int) + (m6 : Int) = (t : Int) := by omega
                           have hwrp : IntKind.i64.wrap (t : Int) = (t : Int) := IntWalk.i64_in _ (by omega)
                           clear hx ht
                           first
                             | (exfalso; omega)
                             | (go_wp2
                                go_quiet (fail)
                                go_wp2
                                go_roundw
                                case rel => exact ⟨m6 + 1, by omega, by omega, by go_num, hw6.more _⟩
                                case measure => simp [intOf]; omega)
                         · go_wp2
                           go_roundw
                           case rel => exact ⟨j, s + 1, _, _, hjn, by omega, rfl, fun h => by first | rfl | exact absurd h hj1, h3, by rw [HR.out]; go_num, by go_num, .inr Hend.out, hw6⟩
                           case measure => simp [intOf]; omega)

set_option maxHeartbeats 1000000 in
set_option maxRecDepth 100000 in
theorem law6_big (a : Option Addr) (n c : Nat) (w : World) (h : 1048576 < n) :
    Calls Try.prog 6 #[.slice a n c] w fun e w' => e = .returned (.bool true) ∧ Below w.heap.size w w' := by
  go_enter Try.func6, Try.ntmps6
  go_wp2_with (go_at_call 18; refine (bytes18_no _ _ _ _ h).mono ?_; rintro e w' ⟨rfl, rfl⟩)
  go_ret
  exact ⟨rfl, Below.refl _ _⟩

theorem nextField_nil (a : Option Addr) (c : Nat) (w : World) : Calls Try.prog 20 #[.slice a 0 c] w fun e w' => ∃ a1 c1 a2 c2, e = .returned (.tuple #[.slice a1 0 c1, .slice a2 0 c2]) ∧ Drew w w' := by
  refine (nextField_zz 0 0 c a [] w (Nat.zero_le _) (Nat.zero_le _) (fun h => absurd h (Nat.not_lt_zero _)) (fun t h => absurd h (Nat.not_lt_zero _))).mono ?_
  rintro e w' ⟨i, j, a1, c1, a2, c2, hN, rfl, -, -, -, hw⟩
  have hj := hN.jn
  have e1 : j - i = 0 := by simp at hj; omega
  rw [e1]
  exact ⟨a1, c1, a2, c2, by rw [show ([] : List Int).length - j = 0 by simp], hw⟩

set_option maxHeartbeats 1000000 in
set_option maxRecDepth 100000 in
theorem law6_none (a : Option Addr) (c : Nat) (w : World) :
    Calls Try.prog 6 #[.slice a 0 c] w fun e w' => e = .returned (.bool true) ∧ Below w.heap.size w w' := by
  go_enter Try.func6, Try.ntmps6
  go_wp2_with (go_at_call 18; refine (bytes18_yes _ _ _ _ (by omega)).mono ?_; rintro e w' ⟨rfl, rfl⟩)
  refine wp_loop_rounds 1 ?_
  rw [rounds_succ]
  go_wp2
  refine wp_loop_rounds 1 ?_
  rw [rounds_succ]
  go_wp2_with fail
  refine (nextField_nil a c w).mono ?_
  rintro e w1 ⟨a1, c1, a2, c2, rfl, hw⟩
  go_wp2
  refine wp_loop_rounds 1 ?_
  rw [rounds_succ]
  go_wp2
  go_ret
  exact ⟨rfl, hw.below _⟩

end Go.Proofs.Qxb6619434a
