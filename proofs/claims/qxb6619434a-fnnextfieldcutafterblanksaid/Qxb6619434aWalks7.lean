/-
  SEAT b6619434a: THE WALKS OF FnNextFieldCutAfterBlank (7).
-/
import Derived.Test.Qxb6619434aCutParts
import Derived.Deep.DeepCutAuto
namespace Go.Proofs.Qxb6619434a
open Go.RowKit

theorem nextField_len (b off c n : Nat) (a : Option Addr) (zs : List Int) (w : World) (hz : zs.length = n) (hn : n ≤ 1048576) (hc : n ≤ c) (ha : 0 < n → a = some ⟨b, off, none⟩) (hcell : Row w b off zs) :
    Calls Try.prog 20 #[.slice a n c] w fun e w' => ∃ i j a1 c1 a2 c2, NF zs i j ∧ e = .returned (.tuple #[.slice a1 (j - i) c1, .slice a2 (n - j) c2]) ∧
      (i < j → a1 = some ⟨b, off + i, none⟩) ∧ (j < n → a2 = some ⟨b, off + j, none⟩) ∧ n - j ≤ c2 ∧ Drew w w' := by
  subst hz
  exact nextField_zz b off c a zs w hn hc ha hcell

theorem eq_len (a a' : Option Addr) (b off c b' off' c' n n' : Nat) (zs : List Int) (w : World) (hz : zs.length = n) (hz' : zs.length = n') (hn : n ≤ 9223372036854775806) (ha : 0 < n → a = some ⟨b, off, none⟩) (ha' : 0 < n' → a' = some ⟨b', off', none⟩)
    (h1 : Row w b off zs) (h2 : Row w b' off' zs) :
    Calls Try.prog 22 #[.slice a n c, .slice a' n' c'] w fun e w' => e = .returned (.bool true) ∧ Drew w w' := by
  subst hz'
  subst hz
  exact eq_at a a' b off c b' off' c' _ zs w rfl hn ha ha' h1 h2

theorem map_app (xs ys : List Int) : xs.map (Value.int .u8) ++ ys.map (Value.int .u8) = (xs ++ ys).map (Value.int .u8) := by simp

/-- 'hasField' behind k bytes, where t0 is no blank. -/
def HasAt (n t0 : Nat) (v i : Value) : Prop := ∃ k : Nat, k ≤ n ∧ i = .int .i64 k ∧ (v = .bool true ∨ v = .bool false ∧ k ≤ t0)

/-- Behind the two copies. -/
structure CutC (w : World) (g1 : Nat) (xs ys : List Int) (s1 : Value) (wx : World) (ac : Option Addr) (cc g2 : Nat) : Prop where
  val : s1 = .slice ac ys.length cc
  addr : 0 < ys.length → ac = some ⟨g2, 0, none⟩
  nil : ac = none → ys.length = 0 ∧ cc = 0
  cap : ys.length ≤ cc
  rowa : Row wx g1 0 xs
  rowc : Row wx g2 0 ys
  bel : Below w.heap.size w wx
  g1lt : g1 < wx.heap.size
  g2lt : g2 < wx.heap.size

set_option maxHeartbeats 4000000 in
set_option maxRecDepth 100000 in
theorem law7_row (ba oa ca cc : Nat) (c0 : Option Addr) (xs ys : List Int) (w : World) (hx0 : 0 < xs.length) (hx : xs.length ≤ 524288) (hy : ys.length ≤ 524288) (hba : ba < w.heap.size)
    (hcell : Row w ba oa xs) (hlast : bl (xs.getD (xs.length - 1) 0) = true)
    (hc : (c0 = none ∧ ys.length = 0 ∧ cc = 0) ∨ (∃ x, c0 = some x ∧ Src w x ys)) :
    Calls Try.prog 7 #[.slice (some ⟨ba, oa, none⟩) xs.length ca, .slice c0 ys.length cc] w fun e w' => e = .returned (.bool true) ∧ Below w.heap.size w w' := by
  have HC : Hid ((c0 = none ∧ ys.length = 0 ∧ cc = 0) ∨ (∃ x, c0 = some x ∧ Src w x ys)) := hc
  clear hc
  have Hlast : Hid (bl (xs.getD (xs.length - 1) 0) = true) := hlast
  have hck := hcell (xs.length - 1) (by omega)
  obtain ⟨z, hz⟩ : ∃ z, z = xs.getD (xs.length - 1) 0 := ⟨_, rfl⟩
  rw [← hz] at hck hlast
  clear hz
  obtain ⟨i0, hi, hz0, hz1, hz2⟩ := info_parts Try.info5
  have hneq := fun (w : World) (a : Option Addr) (n c n' c' : Nat) => run_neq_slice_nil_any (P := Try.prog) w 22 5 a n c n' c' Try.underlying22
  have hne0 : ((xs.length : Int) == 0) = false := beq_eq_false_iff_ne.2 (by omega)
  have hsum : xs.length + ys.length ≤ 1048576 := by omega
  go_enter Try.func7, Try.ntmps7
  go_wp2_with (first | (go_at_call 21; refine (bytes21_yes _ _ _ _ _ _ _ hsum).mono ?_; rintro e w' ⟨rfl, rfl⟩) | (go_at_call 19; refine (blank_any _ _).mono ?_; rintro e w' ⟨rfl, rfl⟩) | (at_make; refine wpList_make_full _ rfl (.tmp 43) (.tmp 43) 22 rfl w.heap.size 5 i0 (.int .u8 0) 1 Try.underlying22 hi hz0 hz1 _ _ _ _ xs.length rfl rfl rfl rfl ?b2 ?b3 (Nat.le_refl _) ?_))
  case b2 => rw [hz2]; omega
  case b3 => unfold maxLen; omega
  intro w1 hown1 hgrow1
  obtain ⟨cur, hcur, hlen⟩ := made_row hown1
  have hbel1 : Below w.heap.size w w1 := (Below.refl _ _).grown hgrow1 (Nat.le_refl _) (fun k h => by cases h)
  have HCu : Hid (w1.heap[w.heap.size]? = some (.cells cur.toArray 5 (0, 0))) := hcur
  have HL : Hid (cur.length = xs.length) := hlen
  have hsrc1 := row_src (hcell.below hbel1 hba)
  clear hown1 hgrow1 hcur hlen hck hlast
  go_upto_if 50 with (refine wpList_copy_bytes rfl (.tmp 45) (.tmp 46) rfl w.heap.size ⟨ba, oa, none⟩ ca xs cur rfl rfl HCu.out HL.out hsrc1 w.heap.size w hbel1 (Nat.le_refl _) ?_; intro w2 hrow2 hbel2 hlt2)
  clear hcell hsrc1 HCu HL hbel1
  go_cut [1] (fun s1 wx => ∃ ac cc' g2, CutC w w.heap.size xs ys s1 wx ac cc' g2)
  case first =>
    rcases HC.out with ⟨rfl, hy0, rfl⟩ | ⟨xc, rfl, hsrc⟩
    · have hy0' : ys = [] := List.eq_nil_of_length_eq_zero hy0
      subst hy0'
      go_wp2
      go_meet
      case rel => exact ⟨none, 0, w.heap.size, rfl, fun h => absurd h (Nat.lt_irrefl _), fun _ => ⟨rfl, rfl⟩, Nat.le_refl _, hrow2, fun t h => absurd h (Nat.not_lt_zero _), hbel2, hlt2, hlt2⟩
    · have hsrc2 := hsrc.below hbel2
      clear hsrc HC
      go_wp2_with (at_make; refine wpList_make_full _ rfl (.tmp 52) (.tmp 52) 22 rfl w2.heap.size 5 i0 (.int .u8 0) 1 Try.underlying22 hi hz0 hz1 _ _ _ _ ys.length rfl rfl rfl rfl ?b2 ?b3 (Nat.le_refl _) ?_)
      case b2 => rw [hz2]; omega
      case b3 => unfold maxLen; omega
      intro w3 hown3 hgrow3
      obtain ⟨cur3, hcur3, hlen3⟩ := made_row hown3
      have hbel3 : Below w2.heap.size w2 w3 := (Below.refl _ _).grown hgrow3 (Nat.le_refl _) (fun k h => by cases h)
      have HCu3 : Hid (w3.heap[w2.heap.size]? = some (.cells cur3.toArray 5 (0, 0))) := hcur3
      have HL3 : Hid (cur3.length = ys.length) := hlen3
      have hsrc3 := hsrc2.below hbel3
      clear hown3 hgrow3 hcur3 hlen3
      go_wp2_with (refine wpList_copy_bytes rfl (.tmp 54) (.tmp 55) rfl w2.heap.size xc cc ys cur3 rfl rfl HCu3.out HL3.out hsrc3 w2.heap.size w2 hbel3 (Nat.le_refl _) ?_; intro w4 hrow4 hbel4 hlt4)
      go_meet
      case rel => exact ⟨_, _, w2.heap.size, rfl, fun _ => rfl, fun h => (by cases h), Nat.le_refl _, hrow2.below hbel4 hlt2, hrow4, hbel2.trans (hbel4.mono hbel2.size), by have := hbel4.size; omega, hlt4⟩
  case rest =>
    obtain ⟨ac, cc', g2, rfl, haddr, hnil, hcap, hrowa, hrowc, hbel, hg1, hg2⟩ := hcut
    clear HC hrow2 hbel2 hlt2
    have HA : Hid (0 < ys.length → ac = some ⟨g2, 0, none⟩) := haddr
    have HNil : Hid (ac = none → ys.length = 0 ∧ cc' = 0) := hnil
    clear haddr hnil
    have hn := hsum
    by_cases hall : ∀ t, t < xs.length → bl (xs.getD t 0) = true
    · have HAll : Hid (∀ t, t < xs.length → bl (xs.getD t 0) = true) := hall
      clear hall
      go_wp2
      go_loop [7, 8] (fun v i => v = .bool false ∧ ∃ k : Nat, k ≤ xs.length ∧ i = .int .i64 k) (fun _ i => xs.length - (intOf i).toNat)
      case atStart => exact ⟨rfl, 0, Nat.zero_le _, rfl⟩
      case round =>
        obtain ⟨rfl, k, hk, rfl⟩ := hrel
        by_cases hlt : k < xs.length
        · have hck := hrowa k hlt
          have hb := HAll.out k hlt
          obtain ⟨x, hx⟩ : ∃ x, x = xs.getD k 0 := ⟨_, rfl⟩
          rw [← hx] at hck hb
          clear hx
          simp only [Nat.zero_add] at hck
          go_wp2_with (go_at_call 19; refine (blank_any _ _).mono ?_; rintro e w' ⟨rfl, rfl⟩)
          go_round
          case rel => exact ⟨rfl, k + 1, by omega, by go_num⟩
          case measure => simp [intOf]; omega
        · skip
          go_wp2_with fail
          refine (nextField_len w.heap.size 0 xs.length xs.length _ xs wc rfl (by omega) (Nat.le_refl _) (fun _ => rfl) hrowa).mono ?_
          rintro e w5 ⟨i1, j1, a1, c1, a2, c2, hN1, rfl, -, -, -, hw5⟩
          have hij1 : i1 = j1 := by
            rcases Nat.lt_or_ge i1 j1 with h | h
            · have q := hN1.mid i1 (Nat.le_refl _) h
              rw [HAll.out i1 (by have := hN1.jn; omega)] at q
              cases q
            · have := hN1.ij
              omega
          have hj1n := hN1.emp hij1
          have el : j1 - i1 = 0 := by omega
          have er : xs.length - j1 = 0 := by omega
          rw [el, er]
          have RA5 := hrowa.drew hw5
          have RC5 := hrowc.drew hw5
          have hs5 : wc.heap.size = w5.heap.size := by rw [hw5.heap]
          have HS5 : Hid (wc.heap.size = w5.heap.size) := hs5
          have hB5 := hbel.trans (hw5.below _)
          have hg15 : w.heap.size < w5.heap.size := by omega
          have hg25 : g2 < w5.heap.size := by omega
          clear hN1 hij1 hj1n el er hrowa hrowc hw5 hs5 HS5 hbel hg1 hg2
          go_wp2_with (at_make; refine wpList_make_bytes _ rfl _ _ rfl _ _ _ (xs.length + ys.length) rfl rfl (by omega) (by omega) ?_)
          intro w6 hown6 hgrow6
          have RA6 := RA5.grown hgrow6 (by simp)
          have RC6 := RC5.grown hgrow6 (by simp)
          have hB6 := hB5.grown hgrow6 hB5.size (fun k h => by cases h)
          have hs6 := hgrow6.size
          clear RA5 RC5 hgrow6 hB5
          go_wp2_with (at_builtin; refine wpList_append_bytes _ rfl (.tmp 81) (.tmp 82) rfl w5.heap.size w5.heap.size 0 (xs.length + ys.length) [] xs rfl hown6 _ xs.length _ rfl rfl (fun h => by cases h) w.heap.size 0 RA6 (fun _ => rfl) (by omega) ?_)
          intro w7 hown7 hgrow7
          have RA7 := RA6.grown hgrow7 (by simp; omega)
          have RC7 := RC6.grown hgrow7 (by simp; omega)
          have hB7 := hB6.grown hgrow7 hB6.size (fun k h => by cases h; omega)
          have hs7 := hgrow7.size
          clear RA6 RC6 hgrow7 hB6 hown6
          go_wp2_with (at_builtin; refine wpList_append_bytes _ rfl (.tmp 84) (.tmp 85) rfl w5.heap.size w5.heap.size xs.length (xs.length + ys.length) xs ys rfl hown7 _ ys.length _ rfl rfl HNil.out g2 0 RC7 HA.out (by omega) ?_)
          intro w8 hown8 hgrow8
          rw [List.map_append.symm] at hown8
          have RM8 := own_row hown8
          have RA8 := RA7.grown hgrow8 (by simp; omega)
          have RC8 := RC7.grown hgrow8 (by simp; omega)
          have hB8 := hB7.grown hgrow8 hB7.size (fun k h => by cases h; omega)
          have hs8 := hgrow8.size
          clear RA7 RC7 hgrow8 hB7 hown7 hown8
          go_wp2_with fail
          refine (nextField_len w5.heap.size 0 _ (xs.length + ys.length) _ (xs ++ ys) w8 (by simp) hsum (Nat.le_refl _) (fun _ => rfl) RM8).mono ?_
          rintro e w9 ⟨i, j, f1, d1, f2, d2, hN, rfl, hf1, hf2, -, hw9⟩
          have RM9 := RM8.drew hw9
          have RA9 := RA8.drew hw9
          have RC9 := RC8.drew hw9
          have hB9 := hB8.trans (hw9.below _)
          have hs9 : w8.heap.size = w9.heap.size := by rw [hw9.heap]
          have HS9 : Hid (w8.heap.size = w9.heap.size) := hs9
          have hlt9 : w5.heap.size < w9.heap.size := by
            have := RM9 0 (by simp; omega)
            exact World.block_lt_of_cell? w9 _ this
          clear RM8 RA8 RC8 hB8 hs9 hw9
          have Hf1 : Hid (i < j → f1 = some ⟨w5.heap.size, 0 + i, none⟩) := hf1
          have Hf2 : Hid (j < xs.length + ys.length → f2 = some ⟨w5.heap.size, 0 + j, none⟩) := hf2
          clear hf1 hf2
          have HN : Hid (NF (xs ++ ys) i j) := hN
          clear hN
          go_wp2_with fail
          refine (nextField_len g2 0 cc' ys.length ac ys w9 rfl (by omega) hcap HA.out RC9).mono ?_
          rintro e w10 ⟨ic, jc, p1, q1, p2, q2, hNc, rfl, hp1, hp2, -, hw10⟩
          obtain ⟨ei, ej⟩ := HN.out.one (hNc.blanks xs HAll.out)
          have hicj := hNc.ij
          have hjcn := hNc.jn
          have RM10 := RM9.drew hw10
          have RC10 := RC9.drew hw10
          have hB10 := hB9.trans (hw10.below _)
          have ecut : cut (xs ++ ys) i j = cut ys ic jc := by rw [ei, ej]; exact cut_right xs ys ic jc
          have R1 : Row w10 w5.heap.size (0 + i) (cut ys ic jc) := by rw [← ecut]; exact RM10.cut i j (by omega) (by simp; omega)
          have R2 : Row w10 g2 (0 + ic) (cut ys ic jc) := RC10.cut ic jc hicj hjcn
          have z1 : (cut ys ic jc).length = j - i := by rw [cut_length ys ic jc hjcn]; omega
          have z2 : (cut ys ic jc).length = jc - ic := cut_length ys ic jc hjcn
          have edrop : (xs ++ ys).drop j = ys.drop jc := by rw [ej]; exact drop_right xs ys jc
          have R3 : Row w10 w5.heap.size (0 + j) (ys.drop jc) := by rw [← edrop]; exact RM10.drop j
          have R4 : Row w10 g2 (0 + jc) (ys.drop jc) := RC10.drop jc
          have z3 : (ys.drop jc).length = xs.length + ys.length - j := by rw [List.length_drop]; omega
          have z4 : (ys.drop jc).length = ys.length - jc := List.length_drop
          have Hp1 : Hid (ic < jc → p1 = some ⟨g2, 0 + ic, none⟩) := hp1
          have Hp2 : Hid (jc < ys.length → p2 = some ⟨g2, 0 + jc, none⟩) := hp2
          have Z : Hid ((cut ys ic jc).length = j - i ∧ (cut ys ic jc).length = jc - ic ∧ (ys.drop jc).length = xs.length + ys.length - j ∧ (ys.drop jc).length = ys.length - jc) := ⟨z1, z2, z3, z4⟩
          have bj : j ≤ xs.length + ys.length := by omega
          clear RM9 RA9 RC9 hB9 RM10 RC10 hw10 hp1 hp2 z1 z2 z3 z4 edrop ecut hNc ei ej HN
          go_wp2_with fail
          refine (eq_len _ _ w5.heap.size (0 + i) _ g2 (0 + ic) _ _ _ (cut ys ic jc) w10 Z.out.1 Z.out.2.1 (by omega) (fun h => Hf1.out (by omega)) (fun h => Hp1.out (by omega)) R1 R2).mono ?_
          rintro e w11 ⟨rfl, hw11⟩
          have R5 := R3.drew hw11
          have R6 := R4.drew hw11
          have hB11 := hB10.trans (hw11.below _)
          clear R1 R2 R3 R4 hw11 hB10
          go_wp2_with fail
          refine (eq_len _ _ w5.heap.size (0 + j) _ g2 (0 + jc) _ _ _ (ys.drop jc) w11 Z.out.2.2.1 Z.out.2.2.2 (by omega) (fun h => Hf2.out (by omega)) (fun h => Hp2.out (by omega)) R5 R6).mono ?_
          rintro e w12 ⟨rfl, hw12⟩
          go_wp2
          go_ret
          exact ⟨rfl, hB11.trans (hw12.below _)⟩
    · obtain ⟨t0, ht0, hbt0⟩ : ∃ t0, t0 < xs.length ∧ bl (xs.getD t0 0) = false := by
        rcases Classical.em (∃ t0, t0 < xs.length ∧ bl (xs.getD t0 0) = false) with h | h
        · exact h
        · exact absurd (fun t ht => by
            cases e : bl (xs.getD t 0) with
            | true => rfl
            | false => exact absurd ⟨t, ht, e⟩ h) hall
      have HB0 : Hid (bl (xs.getD t0 0) = false) := hbt0
      clear hall hbt0
      go_wp2
      go_loop [7, 8] (fun v i => HasAt xs.length t0 v i) (fun _ i => xs.length - (intOf i).toNat)
      case atStart => exact ⟨0, Nat.zero_le _, rfl, .inr ⟨rfl, Nat.zero_le _⟩⟩
      case round =>
        obtain ⟨k, hk, rfl, hvv⟩ := hrel
        have HV : Hid (_ ∨ _) := hvv
        clear hvv
        by_cases hlt : k < xs.length
        · have hck := hrowa k hlt
          obtain ⟨x, hx⟩ : ∃ x, x = xs.getD k 0 := ⟨_, rfl⟩
          rw [← hx] at hck
          have HX : Hid (x = xs.getD k 0) := hx
          clear hx
          simp only [Nat.zero_add] at hck
          cases hb : bl x with
          | true =>
            have HNe : Hid (k ≠ t0) := fun e => by
              have q := HB0.out
              rw [← e, ← HX.out, hb] at q
              cases q
            go_wp2_with (go_at_call 19; refine (blank_any _ _).mono ?_; rintro e w' ⟨rfl, rfl⟩)
            go_round
            case rel => exact ⟨k + 1, by omega, by go_num, HV.out.elim .inl (fun h => .inr ⟨h.1, by have := HNe.out; have := h.2; omega⟩)⟩
            case measure => simp [intOf]; omega
          | false =>
            go_wp2_with (go_at_call 19; refine (blank_any _ _).mono ?_; rintro e w' ⟨rfl, rfl⟩)
            go_round
            case rel => exact ⟨k + 1, by omega, by go_num, .inl rfl⟩
            case measure => simp [intOf]; omega
        · have hvt := HV.out.resolve_right (fun h => by have := h.2; omega)
          subst hvt
          go_wp2_with fail
          refine (nextField_len w.heap.size 0 xs.length xs.length _ xs wc rfl (by omega) (Nat.le_refl _) (fun _ => rfl) hrowa).mono ?_
          rintro e w5 ⟨i1, j1, a1, c1, a2, c2, hN1, rfl, ha1, ha2, hcc2, hw5⟩
          have hij1 : i1 < j1 := by
            rcases Nat.lt_or_ge i1 j1 with h | h
            · exact h
            · exfalso
              have e := hN1.ij
              have e2 := hN1.emp (by omega)
              have q := hN1.pre t0 (by omega)
              rw [HB0.out] at q
              cases q
          have hj1n : j1 < xs.length := by
            rcases Nat.lt_or_ge j1 xs.length with h | h
            · exact h
            · exfalso
              have := hN1.jn
              have q := hN1.mid (xs.length - 1) (by omega) (by omega)
              rw [Hlast.out] at q
              cases q
          have ha1' := ha1 hij1
          have ha2' := ha2 hj1n
          simp only [Nat.zero_add] at ha1' ha2'
          subst ha1'
          subst ha2'
          have HN1 : Hid (NF xs i1 j1) := hN1
          have RA5 := hrowa.drew hw5
          have RC5 := hrowc.drew hw5
          have hs5 : wc.heap.size = w5.heap.size := by rw [hw5.heap]
          have hB5 := hbel.trans (hw5.below _)
          have hg15 : w.heap.size < w5.heap.size := by omega
          have hg25 : g2 < w5.heap.size := by omega
          clear hN1 hrowa hrowc hw5 hs5 hbel hg1 hg2 ha1 ha2
          go_wp2_with (at_make; refine wpList_make_bytes _ rfl _ _ rfl _ _ _ (xs.length + ys.length) rfl rfl (by omega) (by omega) ?_)
          intro w6 hown6 hgrow6
          have RA6 := RA5.grown hgrow6 (by simp)
          have RC6 := RC5.grown hgrow6 (by simp)
          have hB6 := hB5.grown hgrow6 hB5.size (fun k h => by cases h)
          have hs6 := hgrow6.size
          clear RA5 RC5 hgrow6 hB5
          go_wp2_with (at_builtin; refine wpList_append_bytes _ rfl (.tmp 81) (.tmp 82) rfl w5.heap.size w5.heap.size 0 (xs.length + ys.length) [] xs rfl hown6 _ xs.length _ rfl rfl (fun h => by cases h) w.heap.size 0 RA6 (fun _ => rfl) (by omega) ?_)
          intro w7 hown7 hgrow7
          have RA7 := RA6.grown hgrow7 (by simp; omega)
          have RC7 := RC6.grown hgrow7 (by simp; omega)
          have hB7 := hB6.grown hgrow7 hB6.size (fun k h => by cases h; omega)
          have hs7 := hgrow7.size
          clear RA6 RC6 hgrow7 hB6 hown6
          go_wp2_with (at_builtin; refine wpList_append_bytes _ rfl (.tmp 84) (.tmp 85) rfl w5.heap.size w5.heap.size xs.length (xs.length + ys.length) xs ys rfl hown7 _ ys.length _ rfl rfl HNil.out g2 0 RC7 HA.out (by omega) ?_)
          intro w8 hown8 hgrow8
          rw [List.map_append.symm] at hown8
          have RM8 := own_row hown8
          have RA8 := RA7.grown hgrow8 (by simp; omega)
          have RC8 := RC7.grown hgrow8 (by simp; omega)
          have hB8 := hB7.grown hgrow8 hB7.size (fun k h => by cases h; omega)
          have hs8 := hgrow8.size
          clear RA7 RC7 hgrow8 hB7 hown7 hown8
          go_wp2_with fail
          refine (nextField_len w5.heap.size 0 _ (xs.length + ys.length) _ (xs ++ ys) w8 (by simp) hsum (Nat.le_refl _) (fun _ => rfl) RM8).mono ?_
          rintro e w9 ⟨i, j, f1, d1, f2, d2, hN, rfl, hf1, hf2, -, hw9⟩
          have RM9 := RM8.drew hw9
          have RA9 := RA8.drew hw9
          have RC9 := RC8.drew hw9
          have hB9 := hB8.trans (hw9.below _)
          have hs9 : w8.heap.size = w9.heap.size := by rw [hw9.heap]
          have HS9 : Hid (w8.heap.size = w9.heap.size) := hs9
          have hlt9 : w5.heap.size < w9.heap.size := by
            have := RM9 0 (by simp; omega)
            exact World.block_lt_of_cell? w9 _ this
          clear RM8 RA8 RC8 hB8 hs9 hw9
          obtain ⟨ei, ej⟩ := hN.one (HN1.out.field ys hij1 hj1n)
          subst ei
          subst ej
          have hf1' := hf1 hij1
          have hf2' := hf2 (by omega)
          simp only [Nat.zero_add] at hf1' hf2'
          subst hf1'
          subst hf2'
          clear hN hf1 hf2
          go_wp2_with (at_make; refine wpList_make_bytes _ rfl _ _ rfl _ _ _ (xs.length - j + ys.length) rfl rfl (by omega) (by omega) ?_)
          intro w10 hown10 hgrow10
          have RM10 := RM9.grown hgrow10 (by simp)
          have RA10 := RA9.grown hgrow10 (by simp)
          have RC10 := RC9.grown hgrow10 (by simp)
          have hB10 := hB9.grown hgrow10 hB9.size (fun k h => by cases h)
          have hs10 := hgrow10.size
          clear RM9 RA9 RC9 hgrow10 hB9
          have RD10 := RA10.drop j
          rw [Nat.zero_add] at RD10
          obtain ⟨ds, hds⟩ : ∃ ds, ds = xs.drop j := ⟨_, rfl⟩
          rw [← hds] at RD10
          have HDs : Hid (ds = xs.drop j) := hds
          have ZD : Hid (ds.length = xs.length - j) := show ds.length = xs.length - j from by rw [hds]; exact List.length_drop
          clear hds
          go_wp2_with (at_builtin; refine wpList_append_bytes _ rfl (.tmp 99) (.tmp 100) rfl w9.heap.size w9.heap.size 0 (xs.length - j + ys.length) [] ds rfl hown10 _ (xs.length - j) _ rfl ZD.out (fun h => by cases h) w.heap.size j RD10 (fun _ => rfl) (by omega) ?_)
          intro w11 hown11 hgrow11
          have RM11 := RM10.grown hgrow11 (by simp; omega)
          have RA11 := RA10.grown hgrow11 (by simp; omega)
          have RC11 := RC10.grown hgrow11 (by simp; omega)
          have hB11 := hB10.grown hgrow11 hB10.size (fun k h => by cases h; omega)
          have hs11 := hgrow11.size
          clear RM10 RA10 RC10 RD10 hgrow11 hB10 hown10
          go_wp2_with (at_builtin; refine wpList_append_bytes _ rfl (.tmp 102) (.tmp 103) rfl w9.heap.size w9.heap.size (xs.length - j) (xs.length - j + ys.length) ds ys rfl hown11 _ ys.length _ rfl rfl HNil.out g2 0 RC11 HA.out (by omega) ?_)
          intro w12 hown12 hgrow12
          rw [List.map_append.symm] at hown12
          have RR12 := own_row hown12
          have RM12 := RM11.grown hgrow12 (by simp; omega)
          have RA12 := RA11.grown hgrow12 (by simp; omega)
          have hB12 := hB11.grown hgrow12 hB11.size (fun k h => by cases h; omega)
          clear RM11 RA11 RC11 hgrow12 hB11 hown11 hown12
          have R1 : Row w12 w5.heap.size (0 + i) (cut xs i j) := by
            rw [← cut_left xs ys i j (by omega) (by omega)]
            exact RM12.cut i j (by omega) (by simp; omega)
          have R2 : Row w12 w.heap.size (0 + i) (cut xs i j) := RA12.cut i j (by omega) (by omega)
          have R3 : Row w12 w5.heap.size (0 + j) (ds ++ ys) := by
            rw [HDs.out, ← drop_left xs ys j (by omega)]
            exact RM12.drop j
          have Z : Hid ((cut xs i j).length = j - i ∧ (ds ++ ys).length = xs.length + ys.length - j ∧ (ds ++ ys).length = xs.length - j + ys.length) := ⟨cut_length xs i j (by omega), by rw [List.length_append, ZD.out]; omega, by rw [List.length_append, ZD.out]⟩
          have hpos : 0 < j - i := by omega
          rw [Nat.zero_add] at R1 R2 R3
          clear RM12 RA12
          go_wp2_with fail
          refine (eq_len _ _ w5.heap.size i _ w.heap.size i _ _ _ (cut xs i j) w12 Z.out.1 Z.out.1 (by omega) (fun _ => rfl) (fun _ => rfl) R1 R2).mono ?_
          rintro e w13 ⟨rfl, hw13⟩
          have R5 := R3.drew hw13
          have R6 := RR12.drew hw13
          have hB13 := hB12.trans (hw13.below _)
          clear R1 R2 R3 RR12 hw13 hB12
          go_wp2_with fail
          refine (eq_len _ _ w5.heap.size j _ w9.heap.size 0 _ _ _ (ds ++ ys) w13 Z.out.2.1 Z.out.2.2 (by omega) (fun _ => rfl) (fun _ => rfl) R5 R6).mono ?_
          rintro e w14 ⟨rfl, hw14⟩
          go_wp2
          go_ret
          exact ⟨rfl, hB13.trans (hw14.below _)⟩

set_option maxHeartbeats 1000000 in
set_option maxRecDepth 100000 in
theorem law7_big (a a' : Option Addr) (n c n' c' : Nat) (w : World) (h : 1048576 < n + n') (hn : n ≤ 9223372036854775807) (hn' : n' ≤ 9223372036854775807) :
    Calls Try.prog 7 #[.slice a n c, .slice a' n' c'] w fun e w' => e = .returned (.bool true) ∧ Below w.heap.size w w' := by
  go_enter Try.func7, Try.ntmps7
  go_wp2_with (go_at_call 21; refine (bytes21_no _ _ _ _ _ _ _ h hn hn').mono ?_; rintro e w' ⟨rfl, rfl⟩)
  go_ret
  exact ⟨rfl, Below.refl _ _⟩

set_option maxHeartbeats 1000000 in
set_option maxRecDepth 100000 in
theorem law7_half (a a' : Option Addr) (n c n' c' : Nat) (w : World) (h : n + n' ≤ 1048576) (hh : 524288 < n ∨ 524288 < n') :
    Calls Try.prog 7 #[.slice a n c, .slice a' n' c'] w fun e w' => e = .returned (.bool true) ∧ Below w.heap.size w w' := by
  by_cases h1 : 524288 < n
  · clear hh
    go_enter Try.func7, Try.ntmps7
    go_wp2_with (go_at_call 21; refine (bytes21_yes _ _ _ _ _ _ _ h).mono ?_; rintro e w' ⟨rfl, rfl⟩)
    go_ret
    exact ⟨rfl, Below.refl _ _⟩
  · have h2 : 524288 < n' := by omega
    have h3 : n ≤ 524288 := by omega
    clear hh h1
    go_enter Try.func7, Try.ntmps7
    go_wp2_with (go_at_call 21; refine (bytes21_yes _ _ _ _ _ _ _ h).mono ?_; rintro e w' ⟨rfl, rfl⟩)
    go_ret
    exact ⟨rfl, Below.refl _ _⟩

set_option maxHeartbeats 1000000 in
set_option maxRecDepth 100000 in
theorem law7_none (a a' : Option Addr) (c n' c' : Nat) (w : World) (h : n' ≤ 524288) :
    Calls Try.prog 7 #[.slice a 0 c, .slice a' n' c'] w fun e w' => e = .returned (.bool true) ∧ Below w.heap.size w w' := by
  have hsum : 0 + n' ≤ 1048576 := by omega
  go_enter Try.func7, Try.ntmps7
  go_wp2_with (go_at_call 21; refine (bytes21_yes _ _ _ _ _ _ _ hsum).mono ?_; rintro e w' ⟨rfl, rfl⟩)
  go_ret
  exact ⟨rfl, Below.refl _ _⟩

set_option maxHeartbeats 1000000 in
set_option maxRecDepth 100000 in
theorem law7_last (ba oa ca n' c' : Nat) (a' : Option Addr) (xs : List Int) (w : World) (hx0 : 0 < xs.length) (hx : xs.length ≤ 524288) (hy : n' ≤ 524288)
    (hcell : Row w ba oa xs) (hlast : bl (xs.getD (xs.length - 1) 0) = false) :
    Calls Try.prog 7 #[.slice (some ⟨ba, oa, none⟩) xs.length ca, .slice a' n' c'] w fun e w' => e = .returned (.bool true) ∧ Below w.heap.size w w' := by
  have hsum : xs.length + n' ≤ 1048576 := by omega
  have hck := hcell (xs.length - 1) (by omega)
  obtain ⟨z, hz⟩ : ∃ z, z = xs.getD (xs.length - 1) 0 := ⟨_, rfl⟩
  rw [← hz] at hck hlast
  clear hz
  have hne0 : ((xs.length : Int) == 0) = false := beq_eq_false_iff_ne.2 (by omega)
  go_enter Try.func7, Try.ntmps7
  go_wp2_with (first | (go_at_call 21; refine (bytes21_yes _ _ _ _ _ _ _ hsum).mono ?_; rintro e w' ⟨rfl, rfl⟩) | (go_at_call 19; refine (blank_any _ _).mono ?_; rintro e w' ⟨rfl, rfl⟩))
  go_ret
  exact ⟨rfl, Below.refl _ _⟩

end Go.Proofs.Qxb6619434a
