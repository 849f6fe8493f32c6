/-
  SEAT b6619434a: THE WALKS OF FnScanNumberReadsWholeNumbers (5), and of wholeNumberB1 (16).
-/
import Derived.Test.Qxb6619434aScan
import Derived.Test.Qxb6619434aAppend
namespace Go.Proofs.Qxb6619434a
open Go.RowKit

theorem sts_same (zs zs' : List Int) (i i' : Nat) : ∀ k, (∀ t, t < k → zs.getD (i + t) 0 = zs'.getD (i' + t) 0) → sts zs i k = sts zs' i' k := by
  intro k
  induction k with
  | zero => intro _; rfl
  | succ k ih =>
    intro h
    show (if sts zs i k < 0 then -1 else step (sts zs i k) (zs.getD (i + k) 0)) = (if sts zs' i' k < 0 then -1 else step (sts zs' i' k) (zs'.getD (i' + k) 0))
    rw [ih (fun t ht => h t (by omega)), h k (by omega)]
/-- What a text says stays said where it stands within a longer one. -/
theorem AtS.within {xs zs : List Int} {st : Int} (h : AtS xs 0 xs.length st) (i : Nat) (hl : i + xs.length ≤ zs.length) (hz : ∀ t, t < xs.length → zs.getD (i + t) 0 = xs.getD t 0) : AtS zs i (i + xs.length) st := by
  refine ⟨by omega, .inr hl, h.pos, h.top, ?_⟩
  rw [show i + xs.length - i = xs.length by omega, ← h.st, Nat.sub_zero]
  exact sts_same zs xs i 0 xs.length (fun t ht => by rw [hz t ht, Nat.zero_add])
theorem accept_stop {st c : Int} (h0 : 0 ≤ st) (h8 : st ≤ 8) (ha : acceptB st = true) (hd : dg c = false) (h1 : ¬ c = 46) (h2 : ¬ c = 101) (h3 : ¬ c = 69) : step st c < 0 := by
  have hd' := (dg_not c).1 hd
  rcases st_cases h0 h8 with rfl | rfl | rfl | rfl | rfl | rfl | rfl | rfl | rfl
  · cases ha
  · cases ha
  · rw [step2, if_neg h1, if_neg (by omega)]; decide
  · rw [step3, if_neg (by omega), if_neg h1, if_neg (by omega)]; decide
  · cases ha
  · rw [step5, if_neg (by omega), if_neg (by omega)]; decide
  · cases ha
  · cases ha
  · rw [step8, if_neg (by omega)]; decide

/-- wholeNumberB1's answer: no; or yes, and the automaton has come to the end in an accepting state. -/
def WholeOut (zs : List Int) (w : World) (e : Ending) (w' : World) : Prop := w = w' ∧ (e = .returned (.bool false) ∨ e = .returned (.bool true) ∧ ∃ st, AtS zs 0 zs.length st ∧ acceptB st = true)
def WAt (zs : List Int) (vs vk : Value) : Prop := ∃ (k : Nat) (st : Int), k ≤ zs.length ∧ vs = .int .i64 st ∧ vk = .int .i64 k ∧ AtS zs 0 k st

set_option maxHeartbeats 1000000 in
theorem whole_any (b off c : Nat) (zs : List Int) (w : World) (hn : zs.length ≤ 1048576) (hcell : Row w b off zs) : Calls Try.prog 16 #[.slice (some ⟨b, off, none⟩) zs.length c] w (WholeOut zs w) := by
  go_enter Try.func16, Try.ntmps16
  go_wp2
  go_loop [3, 4] (fun vs vk => WAt zs vs vk) (fun _ vk => zs.length - (intOf vk).toNat)
  case atStart => exact ⟨0, 0, Nat.zero_le _, rfl, rfl, AtS.start zs 0⟩
  case round =>
    obtain ⟨k, st, hk, rfl, rfl, hA⟩ := hrel
    have hpos := hA.pos
    have htop := hA.top
    by_cases hlt : k < zs.length
    · have hck := hcell k hlt
      have hbd := (step_bd st (zs.getD k 0)).1
      obtain ⟨x, hx⟩ : ∃ x, x = zs.getD k 0 := ⟨_, rfl⟩
      rw [← hx] at hck hbd
      by_cases hs : step st x < 0
      · clear hx hA
        go_wp2_with (go_at_call 12; refine (step_any _ _ _ hpos htop).mono ?_; rintro e w' ⟨rfl, rfl⟩)
        go_ret
        exact ⟨rfl, .inl rfl⟩
      · have HN : Hid (AtS zs 0 (k + 1) (step st x)) := by rw [hx]; exact hA.next hlt rfl (by rw [← hx]; omega)
        clear hx hA
        go_wp2_with (go_at_call 12; refine (step_any _ _ _ hpos htop).mono ?_; rintro e w' ⟨rfl, rfl⟩)
        go_round
        case rel => exact ⟨k + 1, _, by omega, rfl, by go_num, HN.out⟩
        case measure => simp [intOf]; omega
    · have HA : Hid (AtS zs 0 zs.length st) := by
        have e : k = zs.length := by omega
        rw [e] at hA; exact hA
      clear hA
      cases hacc : acceptB st with
      | false =>
        go_wp2_with (go_at_call 13; refine (accept_any _ _ hpos htop).mono ?_; rintro e w' ⟨rfl, rfl⟩)
        go_ret
        exact ⟨rfl, .inl rfl⟩
      | true =>
        have HC : Hid (acceptB st = true) := hacc
        go_wp2_with (go_at_call 13; refine (accept_any _ _ hpos htop).mono ?_; rintro e w' ⟨rfl, rfl⟩)
        go_ret
        exact ⟨rfl, .inr ⟨rfl, st, HA.out, HC.out⟩⟩

theorem whole_none (a : Option Addr) (c : Nat) (w : World) : Calls Try.prog 16 #[.slice a 0 c] w (WholeOut [] w) := by
  have hacc : acceptB 0 = false := rfl
  go_enter Try.func16, Try.ntmps16
  go_wp2
  refine wp_loop_rounds 1 ?_
  rw [rounds_succ]
  go_wp2_with (go_at_call 13; refine (accept_any _ _ (by omega) (by omega)).mono ?_; rintro e w' ⟨rfl, rfl⟩)
  go_ret
  exact ⟨rfl, .inl rfl⟩
theorem whole_at (a : Option Addr) (b off c : Nat) (zs : List Int) (w : World) (hn : zs.length ≤ 1048576) (ha : 0 < zs.length → a = some ⟨b, off, none⟩) (hcell : Row w b off zs) : Calls Try.prog 16 #[.slice a zs.length c] w (WholeOut zs w) := by
  by_cases h : 0 < zs.length
  · rw [ha h]; exact whole_any b off c zs w hn hcell
  · have h0 : zs = [] := List.eq_nil_of_length_eq_zero (by omega)
    subst h0
    exact whole_none a c w

theorem bytes15_yes (a a' : Option Addr) (n c n' c' : Nat) (s : Int) (w : World) (h1 : n + n' ≤ 1048576) :
    Calls Try.prog 15 #[.slice a n c, .slice a' n' c', .int .u8 s] w fun e w' => e = .returned (.bool true) ∧ w = w' := by
  have g1 : n ≤ 1048576 := by omega
  have g2 : n' ≤ 1048576 := by omega
  go_enter Try.func15, Try.ntmps15
  go_wp2
  go_ret
  exact ⟨rfl, rfl⟩
theorem bytes15_no (a a' : Option Addr) (n c n' c' : Nat) (s : Int) (w : World) (h1 : 1048576 < n + n') (hn : n ≤ 9223372036854775807) (hn' : n' ≤ 9223372036854775807) :
    Calls Try.prog 15 #[.slice a n c, .slice a' n' c', .int .u8 s] w fun e w' => e = .returned (.bool false) ∧ w = w' := by
  by_cases g1 : n ≤ 1048576
  · by_cases g2 : n' ≤ 1048576
    · go_enter Try.func15, Try.ntmps15
      go_wp2
      go_ret
      exact ⟨rfl, rfl⟩
    · go_enter Try.func15, Try.ntmps15
      go_wp2
      go_ret
      exact ⟨rfl, rfl⟩
  · go_enter Try.func15, Try.ntmps15
    go_wp2
    go_ret
    exact ⟨rfl, rfl⟩

theorem mid_len (xs ys : List Int) (s : Int) : (xs ++ [s] ++ ys).length = xs.length + 1 + ys.length := by
  rw [List.length_append, List.length_append]; rfl
theorem mid_left (xs ys : List Int) (s : Int) (t : Nat) (h : t < xs.length) : (xs ++ [s] ++ ys).getD t 0 = xs.getD t 0 := by
  simp only [List.getD]
  rw [List.getElem?_append_left (by simp; omega), List.getElem?_append_left h]
theorem mid_sep (xs ys : List Int) (s : Int) : (xs ++ [s] ++ ys).getD xs.length 0 = s := by
  simp [List.getD]
theorem mid_right (xs ys : List Int) (s : Int) (t : Nat) : (xs ++ [s] ++ ys).getD (xs.length + 1 + t) 0 = ys.getD t 0 := by
  simp only [List.getD]
  rw [List.getElem?_append_right (by simp)]
  simp only [List.length_append, List.length_singleton]
  rw [show xs.length + 1 + t - (xs.length + 1) = t by omega]

theorem row_one (w : World) (x : Int) : Row (w.alloc (.cells #[.int .u8 x] 5)) w.heap.size 0 [x] := by
  intro t ht
  have h0 : t = 0 := by simp at ht; omega
  subst h0
  simp

set_option maxHeartbeats 4000000 in
set_option maxRecDepth 100000 in
theorem law5_row (a0 a1 : Option Addr) (bx ox cx b_y oy cy : Nat) (xs ys : List Int) (sep : Int) (w : World) (hx : xs.length ≤ 524288) (hy : ys.length ≤ 524288)
    (ha0 : 0 < xs.length → a0 = some ⟨bx, ox, none⟩) (ha1 : 0 < ys.length → a1 = some ⟨b_y, oy, none⟩) (hrx : Row w bx ox xs) (hry : Row w b_y oy ys) :
    Calls Try.prog 5 #[.slice a0 xs.length cx, .slice a1 ys.length cy, .int .u8 sep] w fun e w' => e = .returned (.bool true) ∧ Below w.heap.size w w' := by
  have hsum : xs.length + ys.length ≤ 1048576 := by omega
  have HA0 : Hid (0 < xs.length → a0 = some ⟨bx, ox, none⟩) := ha0
  have HA1 : Hid (0 < ys.length → a1 = some ⟨b_y, oy, none⟩) := ha1
  clear ha0 ha1
  go_enter Try.func5, Try.ntmps5
  go_wp2_with (go_at_call 15; refine (bytes15_yes _ _ _ _ _ _ _ _ hsum).mono ?_; rintro e w' ⟨rfl, rfl⟩)
  refine (whole_at a0 bx ox cx xs w (by omega) HA0.out hrx).mono ?_
  rintro e w' ⟨rfl, rfl | ⟨rfl, stx, hAx, haccx⟩⟩
  · go_wp2
    go_ret
    exact ⟨rfl, Below.refl _ _⟩
  have hx0 : 0 < xs.length := by
    rcases Nat.eq_zero_or_pos xs.length with h | h
    · exfalso
      rw [h] at hAx
      have e := hAx.st
      have e0 : sts xs 0 (0 - 0) = 0 := rfl
      rw [e0] at e
      rw [← e] at haccx
      cases haccx
    · exact h
  have HAx : Hid (AtS xs 0 xs.length stx ∧ acceptB stx = true) := ⟨hAx, haccx⟩
  clear hAx haccx
  go_wp2_with fail
  refine (whole_at a1 b_y oy cy ys w (by omega) HA1.out hry).mono ?_
  rintro e w' ⟨rfl, rfl | ⟨rfl, sty, hAy, haccy⟩⟩
  · go_wp2
    go_ret
    exact ⟨rfl, Below.refl _ _⟩
  have hy0 : 0 < ys.length := by
    rcases Nat.eq_zero_or_pos ys.length with h | h
    · exfalso
      rw [h] at hAy
      have e := hAy.st
      have e0 : sts ys 0 (0 - 0) = 0 := rfl
      rw [e0] at e
      rw [← e] at haccy
      cases haccy
    · exact h
  have HAy : Hid (AtS ys 0 ys.length sty ∧ acceptB sty = true) := ⟨hAy, haccy⟩
  clear hAy haccy
  have e0 := HA0.out hx0
  have e1 := HA1.out hy0
  subst e0
  subst e1
  clear HA0 HA1
  have hsp : dg sep = true ∨ (dg sep = false ∧ (sep = 46 ∨ (sep == 46) = false ∧ (sep = 101 ∨ (sep == 101) = false ∧ (sep = 69 ∨ (sep == 69) = false)))) := by
    cases dg sep with
    | true => exact .inl rfl
    | false =>
      refine .inr ⟨rfl, ?_⟩
      by_cases h1 : sep = 46
      · exact .inl h1
      · refine .inr ⟨beq_eq_false_iff_ne.2 h1, ?_⟩
        by_cases h2 : sep = 101
        · exact .inl h2
        · refine .inr ⟨beq_eq_false_iff_ne.2 h2, ?_⟩
          by_cases h3 : sep = 69
          · exact .inl h3
          · exact .inr (beq_eq_false_iff_ne.2 h3)
  rcases hsp with hd | ⟨hd, rfl | ⟨h46, rfl | ⟨h101, rfl | h69⟩⟩⟩
  · go_wp2_with (go_at_call 17; refine (digit_any _ _).mono ?_; rintro e w' ⟨rfl, rfl⟩)
    go_ret
    exact ⟨rfl, Below.refl _ _⟩
  · go_wp2_with (go_at_call 17; refine (digit_any _ _).mono ?_; rintro e w' ⟨rfl, rfl⟩)
    go_ret
    exact ⟨rfl, Below.refl _ _⟩
  · go_wp2_with (go_at_call 17; refine (digit_any _ _).mono ?_; rintro e w' ⟨rfl, rfl⟩)
    go_ret
    exact ⟨rfl, Below.refl _ _⟩
  · go_wp2_with (go_at_call 17; refine (digit_any _ _).mono ?_; rintro e w' ⟨rfl, rfl⟩)
    go_ret
    exact ⟨rfl, Below.refl _ _⟩
  have HST : Hid (step stx sep < 0) := accept_stop HAx.out.1.pos HAx.out.1.top HAx.out.2 hd (beq_eq_false_iff_ne.1 h46) (beq_eq_false_iff_ne.1 h101) (beq_eq_false_iff_ne.1 h69)
  obtain ⟨q, hq⟩ : ∃ q : Nat, q = xs.length + 1 := ⟨_, rfl⟩
  have hqs : (xs.length : Int) + 1 = (q : Int) := by omega
  have hqb : q ≤ 524289 := by omega
  have HQ : Hid (q = xs.length + 1) := hq
  have bxlt : bx < w.heap.size := World.block_lt_of_cell? w _ (hrx 0 hx0)
  have bylt : b_y < w.heap.size := World.block_lt_of_cell? w _ (hry 0 hy0)
  clear hq
  go_wp2_with (first | (go_at_call 17; refine (digit_any _ _).mono ?_; rintro e w' ⟨rfl, rfl⟩) | (at_make; refine wpList_make_bytes _ rfl _ _ rfl _ _ _ (q + ys.length) rfl rfl (by omega) (by omega) ?_))
  intro w5 hown5 hgrow5
  have RX5 := hrx.grown hgrow5 (by simp)
  have RY5 := hry.grown hgrow5 (by simp)
  have hB5 : Below w.heap.size w w5 := (Below.refl _ _).grown hgrow5 (Nat.le_refl _) (fun k h => by cases h)
  have hs5 := hgrow5.size
  clear hrx hry hgrow5
  have hql : xs.length + 1 ≤ q := by rw [HQ.out]; omega
  have hqu : q ≤ xs.length + 1 := by rw [HQ.out]; omega
  go_wp2_with (at_builtin; refine wpList_append_bytes _ rfl (.tmp 52) (.tmp 53) rfl w.heap.size w.heap.size 0 (q + ys.length) [] xs rfl hown5 _ xs.length _ rfl rfl (fun h => by cases h) bx ox RX5 (fun _ => rfl) (by omega) ?_)
  intro w6 hown6 hgrow6
  try simp only [Nat.zero_add, List.nil_append] at hown6
  have RY6 := RY5.grown hgrow6 (by simp; omega)
  have hB6 := hB5.grown hgrow6 hB5.size (fun k h => by cases h; omega)
  have hs6 := hgrow6.size
  clear RX5 RY5 hgrow6 hB5 hown5
  have RO := row_one w6 sep
  have hown6' := hown6.alloc (.cells #[.int .u8 sep] 5)
  have HO : Hid ((w6.alloc (.cells #[.int .u8 sep] 5)).ownsRow w.heap.size 5 1 (.slice (some ⟨w.heap.size, 0, none⟩) xs.length (q + ys.length)) xs.length (xs.map (Value.int .u8))) := hown6'
  clear hown6 hown6'
  go_wp2_with (at_builtin; refine wpList_append_bytes _ rfl (.tmp 55) (.tmp 57) rfl w.heap.size w.heap.size xs.length (q + ys.length) xs [sep] rfl HO.out _ 1 _ rfl rfl (fun h => by cases h) w6.heap.size 0 RO (fun _ => rfl) (by omega) ?_)
  intro w7 hown7 hgrow7
  have RY7 : Row w7 b_y oy ys := by
    have r : Row (w6.alloc (.cells #[.int .u8 sep] 5)) b_y oy ys := RY6.below (B := w6.heap.size) ((Below.refl _ _).alloc (Nat.le_refl _) _) (by omega)
    exact r.grown hgrow7 (by simp; omega)
  have hB7 : Below w.heap.size w w7 := (hB6.alloc (by omega) (.cells #[.int .u8 sep] 5)).grown hgrow7 (by simp; omega) (fun k h => by cases h; omega)
  clear RO HO RY6 hB6 hgrow7
  have HO7 : Hid (w7.ownsRow w.heap.size 5 1 (.slice (some ⟨w.heap.size, 0, none⟩) (xs.length + 1) (q + ys.length)) (xs.length + 1) ((xs ++ [sep]).map (Value.int .u8))) := show w7.ownsRow _ _ _ _ _ _ from by simpa using hown7
  clear hown7
  go_wp2_with (at_builtin; refine wpList_append_bytes _ rfl (.tmp 59) (.tmp 60) rfl w.heap.size w.heap.size (xs.length + 1) (q + ys.length) (xs ++ [sep]) ys rfl HO7.out _ ys.length _ rfl rfl (fun h => by cases h) b_y oy RY7 (fun _ => rfl) (by omega) ?_)
  intro w8 hown8 hgrow8
  have HO8 : Hid (w8.ownsRow w.heap.size 5 1 (.slice (some ⟨w.heap.size, 0, none⟩) (xs.length + 1 + ys.length) (q + ys.length)) (xs.length + 1 + ys.length) ((xs ++ [sep] ++ ys).map (Value.int .u8))) := show w8.ownsRow _ _ _ _ _ _ from by simpa using hown8
  have RS := own_row HO8.out
  have hB8 := hB7.grown hgrow8 hB7.size (fun k h => by cases h; omega)
  clear hown8 HO7 HO8 RY7 hgrow8 hB7
  obtain ⟨zs, hzs⟩ : ∃ zs, zs = xs ++ [sep] ++ ys := ⟨_, rfl⟩
  rw [← hzs] at RS
  have HZ : Hid (zs = xs ++ [sep] ++ ys) := hzs
  have HL : Hid (zs.length = xs.length + 1 + ys.length) := show zs.length = _ from by rw [hzs]; exact mid_len xs ys sep
  clear hzs
  have hnl : xs.length + 1 + ys.length ≤ 2097152 := by omega
  have HE1 : Hid (End zs 0 xs.length stx) := by
    have h1 := HAx.out.1.within (zs := zs) 0 (by rw [HL.out]; omega) (fun t ht => by rw [HZ.out, Nat.zero_add]; exact mid_left xs ys sep t ht)
    rw [Nat.zero_add] at h1
    refine ⟨h1, fun _ => ?_⟩
    have e : zs.getD xs.length 0 = sep := by rw [HZ.out]; exact mid_sep xs ys sep
    rw [e]; exact HST.out
  have HE2 : Hid (End zs q (xs.length + 1 + ys.length) sty) := by
    have h2 := HAy.out.1.within (zs := zs) q (by rw [HL.out, HQ.out]; omega) (fun t ht => by rw [HZ.out, HQ.out]; exact mid_right xs ys sep t)
    rw [HQ.out] at h2
    rw [HQ.out]
    exact ⟨h2, fun h => absurd h (by rw [HL.out]; omega)⟩
  go_wp2_with fail
  refine (scan_zz _ w.heap.size 0 _ 0 _ zs w8 HL.out hnl (by omega) (fun _ => rfl) RS).mono ?_
  rintro e w9 ⟨rfl, p1, st1, hE1, rfl⟩
  obtain ⟨rfl, rfl⟩ := HE1.out.one hE1
  have hc1 : acceptB stx = true := HAx.out.2
  rw [hc1]
  simp only [if_true]
  clear hE1 HAx hc1
  go_wp2_with fail
  refine (scan_zz _ w.heap.size 0 _ q _ zs w8 HL.out hnl (by omega) (fun _ => rfl) RS).mono ?_
  rintro e w9 ⟨rfl, p2, st2, hE2, rfl⟩
  obtain ⟨rfl, rfl⟩ := HE2.out.one hE2
  have hc2 : acceptB sty = true := HAy.out.2
  rw [hc2]
  simp only [if_true]
  clear hE2 HAy hc2
  go_wp2
  go_ret
  exact ⟨ret_bool (by simp), hB8⟩

set_option maxHeartbeats 1000000 in
set_option maxRecDepth 100000 in
theorem law5_big (a a' : Option Addr) (n c n' c' : Nat) (sep : Int) (w : World) (h : 1048576 < n + n') (hn : n ≤ 9223372036854775807) (hn' : n' ≤ 9223372036854775807) :
    Calls Try.prog 5 #[.slice a n c, .slice a' n' c', .int .u8 sep] w fun e w' => e = .returned (.bool true) ∧ Below w.heap.size w w' := by
  go_enter Try.func5, Try.ntmps5
  go_wp2_with (go_at_call 15; refine (bytes15_no _ _ _ _ _ _ _ _ h hn hn').mono ?_; rintro e w' ⟨rfl, rfl⟩)
  go_ret
  exact ⟨rfl, Below.refl _ _⟩

set_option maxHeartbeats 1000000 in
set_option maxRecDepth 100000 in
theorem law5_half (a a' : Option Addr) (n c n' c' : Nat) (sep : Int) (w : World) (h : n + n' ≤ 1048576) (hh : 524288 < n ∨ 524288 < n') :
    Calls Try.prog 5 #[.slice a n c, .slice a' n' c', .int .u8 sep] w fun e w' => e = .returned (.bool true) ∧ Below w.heap.size w w' := by
  by_cases h1 : 524288 < n
  · clear hh
    go_enter Try.func5, Try.ntmps5
    go_wp2_with (go_at_call 15; refine (bytes15_yes _ _ _ _ _ _ _ _ h).mono ?_; rintro e w' ⟨rfl, rfl⟩)
    go_ret
    exact ⟨rfl, Below.refl _ _⟩
  · have h2 : 524288 < n' := by omega
    have h3 : n ≤ 524288 := by omega
    clear hh h1
    go_enter Try.func5, Try.ntmps5
    go_wp2_with (go_at_call 15; refine (bytes15_yes _ _ _ _ _ _ _ _ h).mono ?_; rintro e w' ⟨rfl, rfl⟩)
    go_ret
    exact ⟨rfl, Below.refl _ _⟩

end Go.Proofs.Qxb6619434a
