/-
  SEAT b6619434a: scanNumber (24), ZZscanNumber (14): it answers by the place and state in which the automaton stops.
-/
import Derived.Test.Qxb6619434aNum
import Derived.Deep.DeepCutAuto
import Derived.Deep.CutBlock
namespace Go.Proofs.Qxb6619434a
open Go.RowKit

/-- scanNumber's answer. -/
def ScanOut (zs : List Int) (i : Nat) (w : World) (e : Ending) (w' : World) : Prop := w = w' ∧ ∃ (p : Nat) (st : Int), End zs i p st ∧ e = .returned (.tuple #[.int .i64 (if acceptB st then (p : Int) else 0), .bool (acceptB st)])
theorem scan_no {zs : List Int} {i p : Nat} {st : Int} {w : World} (h : End zs i p st) (ha : acceptB st = false) : ScanOut zs i w (.returned (.tuple #[.int .i64 0, .bool false])) w :=
  ⟨rfl, p, st, h, by rw [ha]; rfl⟩
theorem scan_yes {zs : List Int} {i p : Nat} {st : Int} {w : World} (h : End zs i p st) (ha : acceptB st = true) : ScanOut zs i w (.returned (.tuple #[.int .i64 (p : Int), .bool true])) w :=
  ⟨rfl, p, st, h, by rw [ha]; rfl⟩

/-- Behind the sign. -/
def Ph1 (zs : List Int) (i : Nat) (v : Value) : Prop := ∃ (p : Nat) (st : Int), v = .int .i64 p ∧ AtS zs i p st ∧ (st = 0 ∧ (p < zs.length → zs.getD p 0 ≠ 45) ∨ st = 1)
/-- Behind the integer's digits. -/
def Ph2 (zs : List Int) (i : Nat) (v : Value) : Prop := ∃ (p : Nat) (st : Int), v = .int .i64 p ∧ p ≤ zs.length ∧ AtS zs i p st ∧ (st = 2 ∨ st = 3 ∧ (p < zs.length → dg (zs.getD p 0) = false))
/-- Behind the fraction. -/
def Ph3 (zs : List Int) (i : Nat) (v : Value) : Prop := ∃ (p : Nat) (st : Int), v = .int .i64 p ∧ p ≤ zs.length ∧ AtS zs i p st ∧ acceptB st = true ∧
  (∀ c, c = 101 ∨ c = 69 → step st c = 6) ∧ (p < zs.length → ¬ (zs.getD p 0 = 101 ∨ zs.getD p 0 = 69) → step st (zs.getD p 0) < 0)
/-- A test 'i < len(b) && b[i] == c'. -/
def Tst (zs : List Int) (p : Nat) (c : Int) (v : Value) : Prop := v = .bool true ∧ p < zs.length ∧ zs.getD p 0 = c ∨ v = .bool false ∧ ¬ (p < zs.length ∧ zs.getD p 0 = c)

set_option maxHeartbeats 4000000 in
set_option maxRecDepth 100000 in
theorem scan_any (b off c i : Nat) (zs : List Int) (w : World) (hn : zs.length ≤ 2097152) (hi : i ≤ 9223372036854775807) (hcell : Row w b off zs) :
    Calls Try.prog 24 #[.slice (some ⟨b, off, none⟩) zs.length c, .int .i64 i] w (ScanOut zs i w) := by
  go_enter Try.func24, Try.ntmps24
  go_upto_region 1 with fail
  go_cut [18] (fun v wx => Tst zs i 45 v ∧ wx = w)
  case first =>
    by_cases hlt : i < zs.length
    · have hck := hcell i hlt
      by_cases hx : zs.getD i 0 = 45
      · rw [hx] at hck
        have HX : Hid (zs.getD i 0 = 45) := hx
        clear hx
        go_wp2
        go_meet
        case rel => exact ⟨.inl ⟨rfl, hlt, HX.out⟩, rfl⟩
      · have HX : Hid (¬ zs.getD i 0 = 45) := hx
        have hx' : (zs.getD i 0 == 45) = false := beq_eq_false_iff_ne.2 hx
        obtain ⟨x, hxe⟩ : ∃ x, x = zs.getD i 0 := ⟨_, rfl⟩
        rw [← hxe] at hck hx'
        clear hx hxe
        go_wp2
        go_meet
        case rel => exact ⟨.inr ⟨rfl, fun h => HX.out h.2⟩, rfl⟩
    · go_wp2
      go_meet
      case rel => exact ⟨.inr ⟨rfl, fun h => hlt h.1⟩, rfl⟩
  case rest =>
    obtain ⟨ht, rfl⟩ := hcut
    go_upto_if 18 with fail
    go_cut [1] (fun v wx => Ph1 zs i v ∧ wx = wc)
    case first =>
      rcases ht with ⟨rfl, hlt, hx⟩ | ⟨rfl, hx⟩
      · have HX : Hid (zs.getD i 0 = 45) := hx
        clear hx
        go_wp2
        go_meet
        case rel => exact ⟨⟨i + 1, 1, by go_num, (AtS.start zs i).next hlt (by rw [HX.out]; rfl) (by decide), .inr rfl⟩, rfl⟩
      · have HX : Hid (¬ (i < zs.length ∧ zs.getD i 0 = 45)) := hx
        clear hx
        go_wp2
        go_meet
        case rel => exact ⟨⟨i, 0, rfl, AtS.start zs i, .inl ⟨rfl, fun h h' => HX.out ⟨h, h'⟩⟩⟩, rfl⟩
    case rest =>
      obtain ⟨⟨p, st, rfl, hA, hst⟩, rfl⟩ := hcut
      have hple : p ≤ 9223372036854775807 := by rcases hA.bd with h | h <;> omega
      have HST : Hid (st = 0 ∧ (p < zs.length → zs.getD p 0 ≠ 45) ∨ st = 1) := hst
      have hacc : acceptB st = false := by
        rcases hst with ⟨h, _⟩ | h <;> rw [h] <;> rfl
      have HACC : Hid (acceptB st = false) := hacc
      clear hst hacc ht
      go_upto_block 0 with fail
      go_cut [1] (fun v wx => Ph2 zs i v ∧ wx = wc)
      case first =>
        by_cases hlt : p < zs.length
        · have hck := hcell p hlt
          obtain ⟨x, hxe⟩ : ∃ x, x = zs.getD p 0 := ⟨_, rfl⟩
          rw [← hxe] at hck
          have HX : Hid (x = zs.getD p 0) := hxe
          clear hxe
          by_cases h48 : x = 48
          · have HS : Hid (step st (zs.getD p 0) = 2) := by
              show _ = _
              rw [← HX.out, h48]
              rcases HST.out with ⟨h, _⟩ | h <;> rw [h] <;> rfl
            rw [h48] at hck
            clear h48 HX
            go_wp2
            go_meet
            case rel => exact ⟨⟨p + 1, 2, by go_num, by omega, hA.next hlt HS.out (by decide), .inl rfl⟩, rfl⟩
          · have h48' : (x == 48) = false := beq_eq_false_iff_ne.2 h48
            by_cases hdig : 49 ≤ x ∧ x ≤ 57
            · have HS : Hid (step st (zs.getD p 0) = 3) := by
                show _ = _
                rw [← HX.out]
                rcases HST.out with ⟨h, _⟩ | h
                · rw [h, step0, if_neg (by omega), if_neg h48, if_pos hdig]
                · rw [h, step1, if_neg h48, if_pos hdig]
              have HDG : Hid (dg (zs.getD p 0) = true) := by
                show _ = _
                rw [← HX.out]
                exact (dg_iff x).2 ⟨by omega, hdig.2⟩
              obtain ⟨h1, h2⟩ := hdig
              clear h48
              go_wp2_with (go_at_call 26; refine (skip_any _ _ _ _ _ _ hn hple hcell).mono ?_; rintro e w' ⟨k, rfl, rfl, hsk⟩)
              go_meet
              case rel =>
                have hpk : p < k := by
                  rcases Nat.lt_or_ge p k with h | h
                  · exact h
                  · have e : k = p := Nat.le_antisymm h hsk.le
                    have q := hsk.stop (by omega)
                    rw [e, HDG.out] at q
                    cases q
                have hkn : k ≤ zs.length := by rcases hsk.bd with h | h <;> omega
                exact ⟨⟨k, 3, rfl, hkn, hA.more hsk hpk HS.out dig_3 (by decide), .inr ⟨rfl, hsk.stop⟩⟩, rfl⟩
            · have HE : Hid (End zs i p st) := ⟨hA, fun _ => by
                rw [← HX.out]
                rcases HST.out with ⟨h, h45⟩ | h
                · have := h45 hlt
                  rw [← HX.out] at this
                  rw [h, step0, if_neg this, if_neg h48, if_neg hdig]; decide
                · rw [h, step1, if_neg h48, if_neg hdig]; decide⟩
              have hd : decide (49 ≤ x) = false ∨ (49 ≤ x ∧ 57 < x) := by
                rcases (show x < 49 ∨ (49 ≤ x ∧ 57 < x) by omega) with h | h
                · exact .inl (decide_eq_false (by omega))
                · exact .inr h
              clear h48 hdig
              rcases hd with hd | ⟨hd, hd2⟩
              · go_wp2
                go_ret2
                exact scan_no HE.out HACC.out
              · go_wp2
                go_ret2
                exact scan_no HE.out HACC.out
        · have HE : Hid (End zs i p st) := ⟨hA, fun h => absurd h hlt⟩
          go_wp2
          go_ret2
          exact scan_no HE.out HACC.out
      case rest =>
        clear hA HST HACC hple
        obtain ⟨⟨p, st, rfl, hpn, hA, hst⟩, rfl⟩ := hcut
        have HST : Hid (st = 2 ∨ st = 3 ∧ (p < zs.length → dg (zs.getD p 0) = false)) := hst
        clear hst
        go_upto_region 8 with fail
        go_cut [67] (fun v wx => Tst zs p 46 v ∧ wx = wc)
        case first =>
          by_cases hlt : p < zs.length
          · have hck := hcell p hlt
            by_cases hx : zs.getD p 0 = 46
            · rw [hx] at hck
              have HX : Hid (zs.getD p 0 = 46) := hx
              clear hx
              go_wp2
              go_meet
              case rel => exact ⟨.inl ⟨rfl, hlt, HX.out⟩, rfl⟩
            · have HX : Hid (¬ zs.getD p 0 = 46) := hx
              have hx' : (zs.getD p 0 == 46) = false := beq_eq_false_iff_ne.2 hx
              obtain ⟨x, hxe⟩ : ∃ x, x = zs.getD p 0 := ⟨_, rfl⟩
              rw [← hxe] at hck hx'
              clear hx hxe
              go_wp2
              go_meet
              case rel => exact ⟨.inr ⟨rfl, fun h => HX.out h.2⟩, rfl⟩
          · go_wp2
            go_meet
            case rel => exact ⟨.inr ⟨rfl, fun h => hlt h.1⟩, rfl⟩
        case rest =>
          obtain ⟨ht, rfl⟩ := hcut
          go_upto_if 67 with fail
          go_cut [1] (fun v wx => Ph3 zs i v ∧ wx = wc)
          case first =>
            rcases ht with ⟨rfl, hlt, hx⟩ | ⟨rfl, hx⟩
            · obtain ⟨q, hq⟩ : ∃ q : Nat, q = p + 1 := ⟨_, rfl⟩
              have HA4 : Hid (AtS zs i q 4) := by
                show AtS zs i q 4
                rw [hq]
                refine hA.next hlt ?_ (by decide)
                rw [hx]
                rcases HST.out with h | ⟨h, _⟩ <;> rw [h] <;> rfl
              have hsum : (p : Int) + 1 = (q : Int) := by omega
              have hqn : q ≤ zs.length := by omega
              have hqb : q ≤ 9223372036854775807 := by omega
              have HPQ : Hid (q = p + 1) := hq
              clear hx hq
              go_wp2_with fail
              refine (skip_any _ _ _ q _ _ hn hqb hcell).mono ?_
              rintro e w' ⟨k, rfl, rfl, hsk⟩
              have hkn : k ≤ zs.length := by rcases hsk.bd with h | h <;> omega
              by_cases hkq : k = q
              · have HE : Hid (End zs i q 4) := ⟨HA4.out, fun h => by
                  have hs := hsk.stop (by omega)
                  rw [hkq] at hs
                  have hs' := (dg_not _).1 hs
                  rw [step4, if_neg (by omega)]; decide⟩
                have hkq' : ((k : Int) == (q : Int)) = true := by rw [hkq]; simp
                clear hkq
                go_wp2
                go_ret2
                exact scan_no HE.out rfl
              · have hkq' : ((k : Int) == (q : Int)) = false := beq_eq_false_iff_ne.2 (by omega)
                have hlq : q < k := by have := hsk.le; omega
                have HA5 : Hid (AtS zs i k 5) := HA4.out.digits hsk hlq dig_4 dig_5 (by decide)
                have HSt : Hid (k < zs.length → dg (zs.getD k 0) = false) := hsk.stop
                clear hkq hsk
                go_wp2
                go_meet
                case rel =>
                  refine ⟨⟨k, 5, rfl, hkn, HA5.out, rfl, ?_, ?_⟩, rfl⟩
                  · intro c hc
                    rw [step5, if_neg (by omega), if_pos hc]
                  · intro h hne
                    have hs' := (dg_not _).1 (HSt.out h)
                    rw [step5, if_neg (by omega), if_neg hne]; decide
            · have HX : Hid (¬ (p < zs.length ∧ zs.getD p 0 = 46)) := hx
              clear hx
              go_wp2
              go_meet
              case rel =>
                refine ⟨⟨p, st, rfl, hpn, hA, ?_, ?_, ?_⟩, rfl⟩
                · rcases HST.out with h | ⟨h, _⟩ <;> rw [h] <;> rfl
                · intro c hc
                  rcases HST.out with h | ⟨h, _⟩
                  · rw [h, step2, if_neg (by omega), if_pos hc]
                  · rw [h, step3, if_neg (by omega), if_neg (by omega), if_pos hc]
                · intro hl hne
                  have hdot : ¬ zs.getD p 0 = 46 := fun h => HX.out ⟨hl, h⟩
                  rcases HST.out with h | ⟨h, hd⟩
                  · rw [h, step2, if_neg hdot, if_neg hne]; decide
                  · have hs' := (dg_not _).1 (hd hl)
                    rw [h, step3, if_neg (by omega), if_neg hdot, if_neg hne]; decide
          case rest =>
            clear hA HST hpn ht
            obtain ⟨⟨p, st, rfl, hpn, hA, hacc, hE, hstop⟩, rfl⟩ := hcut
            have HAcc : Hid (acceptB st = true) := hacc
            have HEE : Hid (∀ c, c = 101 ∨ c = 69 → step st c = 6) := hE
            have HStop : Hid (p < zs.length → ¬ (zs.getD p 0 = 101 ∨ zs.getD p 0 = 69) → step st (zs.getD p 0) < 0) := hstop
            clear hacc hE hstop
            by_cases hlt : p < zs.length
            · have hck := hcell p hlt
              by_cases hx : zs.getD p 0 = 101 ∨ zs.getD p 0 = 69
              · obtain ⟨q, hq⟩ : ∃ q : Nat, q = p + 1 := ⟨_, rfl⟩
                have HA6 : Hid (AtS zs i q 6) := by
                  show AtS zs i q 6
                  rw [hq]
                  exact hA.next hlt (HEE.out _ hx) (by decide)
                have hsum : (p : Int) + 1 = (q : Int) := by omega
                have hqn : q ≤ zs.length := by omega
                have hqb : q ≤ 9223372036854775807 := by omega
                clear HAcc HEE HStop hq hA
                rcases hx with hx | hx
                all_goals rw [hx] at hck
                all_goals clear hx
                all_goals
                  by_cases hlq : q < zs.length
                  · have hck2 := hcell q hlq
                    by_cases hy : zs.getD q 0 = 43 ∨ zs.getD q 0 = 45
                    · obtain ⟨r, hr⟩ : ∃ r : Nat, r = q + 1 := ⟨_, rfl⟩
                      have HA7 : Hid (AtS zs i r 7) := by
                        show AtS zs i r 7
                        rw [hr]
                        refine HA6.out.next hlq ?_ (by decide)
                        rw [step6, if_pos hy]
                      have hsum2 : (q : Int) + 1 = (r : Int) := by omega
                      have hrb : r ≤ 9223372036854775807 := by omega
                      have hrn : r ≤ zs.length := by omega
                      clear hr
                      rcases hy with hy | hy
                      all_goals
                        rw [hy] at hck2
                        clear hy
                        go_wp2_with fail
                        refine (skip_any _ _ _ r _ _ hn hrb hcell).mono ?_
                        rintro e w' ⟨k, rfl, rfl, hsk⟩
                        have hkn : k ≤ zs.length := by rcases hsk.bd with h | h <;> omega
                        by_cases hkr : k = r
                        · have HE : Hid (End zs i r 7) := ⟨HA7.out, fun h => by
                            have hs := hsk.stop (by omega)
                            rw [hkr] at hs
                            have hs' := (dg_not _).1 hs
                            rw [step7, if_neg (by omega)]; decide⟩
                          have hkr' : ((k : Int) == (r : Int)) = true := by rw [hkr]; simp
                          clear hkr
                          go_wp2
                          go_ret2
                          exact scan_no HE.out rfl
                        · have hkr' : ((k : Int) == (r : Int)) = false := beq_eq_false_iff_ne.2 (by omega)
                          have hlr : r < k := by have := hsk.le; omega
                          have HE : Hid (End zs i k 8) := ⟨HA7.out.digits hsk hlr dig_7 dig_8 (by decide), fun h => by
                            have hs' := (dg_not _).1 (hsk.stop h)
                            rw [step8, if_neg (by omega)]; decide⟩
                          clear hkr hsk
                          go_wp2
                          go_ret2
                          exact scan_yes HE.out rfl
                    · have HY : Hid (¬ (zs.getD q 0 = 43 ∨ zs.getD q 0 = 45)) := hy
                      obtain ⟨y, hye⟩ : ∃ y, y = zs.getD q 0 := ⟨_, rfl⟩
                      rw [← hye] at hck2 hy
                      have n1 : (y == 43) = false := beq_eq_false_iff_ne.2 (fun h => hy (.inl h))
                      have n2 : (y == 45) = false := beq_eq_false_iff_ne.2 (fun h => hy (.inr h))
                      clear hy hye
                      go_wp2_with fail
                      refine (skip_any _ _ _ q _ _ hn hqb hcell).mono ?_
                      rintro e w' ⟨k, rfl, rfl, hsk⟩
                      have hkn : k ≤ zs.length := by rcases hsk.bd with h | h <;> omega
                      by_cases hkq : k = q
                      · have HE : Hid (End zs i q 6) := ⟨HA6.out, fun h => by
                          have hs := hsk.stop (by omega)
                          rw [hkq] at hs
                          have hs' := (dg_not _).1 hs
                          rw [step6, if_neg HY.out, if_neg (by omega)]; decide⟩
                        have hkq' : ((k : Int) == (q : Int)) = true := by rw [hkq]; simp
                        clear hkq
                        go_wp2
                        go_ret2
                        exact scan_no HE.out rfl
                      · have hkq' : ((k : Int) == (q : Int)) = false := beq_eq_false_iff_ne.2 (by omega)
                        have hlr : q < k := by have := hsk.le; omega
                        have HE : Hid (End zs i k 8) := ⟨HA6.out.digits hsk hlr dig_6 dig_8 (by decide), fun h => by
                          have hs' := (dg_not _).1 (hsk.stop h)
                          rw [step8, if_neg (by omega)]; decide⟩
                        clear hkq hsk
                        go_wp2
                        go_ret2
                        exact scan_yes HE.out rfl
                  · have HE : Hid (End zs i q 6) := ⟨HA6.out, fun h => absurd h hlq⟩
                    go_wp2_with fail
                    refine (skip_any _ _ _ q _ _ hn hqb hcell).mono ?_
                    rintro e w' ⟨k, rfl, rfl, hsk⟩
                    have hkq : k = q := by have := hsk.le; rcases hsk.bd with h | h <;> omega
                    have hkq' : ((k : Int) == (q : Int)) = true := by rw [hkq]; simp
                    clear hkq
                    go_wp2
                    go_ret2
                    exact scan_no HE.out rfl
              · have HE : Hid (End zs i p st) := ⟨hA, fun h => HStop.out h hx⟩
                obtain ⟨x, hxe⟩ : ∃ x, x = zs.getD p 0 := ⟨_, rfl⟩
                rw [← hxe] at hck hx
                have n1 : (x == 101) = false := beq_eq_false_iff_ne.2 (fun h => hx (.inl h))
                have n2 : (x == 69) = false := beq_eq_false_iff_ne.2 (fun h => hx (.inr h))
                clear hx hxe HStop HEE
                go_wp2
                go_ret2
                exact scan_yes HE.out HAcc.out
            · have HE : Hid (End zs i p st) := ⟨hA, fun h => absurd h hlt⟩
              clear HStop HEE
              go_wp2
              go_ret2
              exact scan_yes HE.out HAcc.out

theorem scan_none (a : Option Addr) (c i : Nat) (w : World) (_hi : i ≤ 9223372036854775807) : Calls Try.prog 24 #[.slice a 0 c, .int .i64 i] w (ScanOut [] i w) := by
  have HE : Hid (End [] i i 0) := ⟨AtS.start [] i, fun h => absurd h (Nat.not_lt_zero _)⟩
  go_enter Try.func24, Try.ntmps24
  go_wp2
  go_ret2
  exact scan_no HE.out rfl

theorem scan_at (a : Option Addr) (b off c i n : Nat) (zs : List Int) (w : World) (hz : zs.length = n) (hn : n ≤ 2097152) (hi : i ≤ 9223372036854775807) (ha : 0 < n → a = some ⟨b, off, none⟩) (hcell : Row w b off zs) :
    Calls Try.prog 24 #[.slice a n c, .int .i64 i] w (ScanOut zs i w) := by
  subst hz
  by_cases h : 0 < zs.length
  · rw [ha h]; exact scan_any b off c i zs w hn hi hcell
  · have h0 : zs = [] := List.eq_nil_of_length_eq_zero (by omega)
    subst h0
    exact scan_none a c i w hi

theorem scan_zz (a : Option Addr) (b off c i n : Nat) (zs : List Int) (w : World) (hz : zs.length = n) (hn : n ≤ 2097152) (hi : i ≤ 9223372036854775807) (ha : 0 < n → a = some ⟨b, off, none⟩) (hcell : Row w b off zs) :
    Calls Try.prog 14 #[.slice a n c, .int .i64 i] w (ScanOut zs i w) := by
  have HA : Hid (0 < n → a = some ⟨b, off, none⟩) := ha
  have HZ : Hid (zs.length = n) := hz
  clear ha hz
  go_enter Try.func14, Try.ntmps14
  go_wp2_with fail
  refine (scan_at a b off c i n zs w HZ.out hn hi HA.out hcell).mono ?_
  rintro e w' ⟨rfl, p, st, hE, rfl⟩
  have HE : Hid (End zs i p st) := hE
  clear hE
  cases hacc : acceptB st with
  | true =>
    have HC : Hid (acceptB st = true) := hacc
    clear hacc
    simp only [if_true]
    go_wp2
    go_ret2
    exact scan_yes HE.out HC.out
  | false =>
    have HC : Hid (acceptB st = false) := hacc
    clear hacc
    simp only [Bool.false_eq_true, if_false]
    go_wp2
    go_ret2
    exact scan_no HE.out HC.out

end Go.Proofs.Qxb6619434a
