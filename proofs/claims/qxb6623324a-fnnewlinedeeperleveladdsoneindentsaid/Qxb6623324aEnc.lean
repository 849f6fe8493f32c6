/-
  SEAT b6623324a: CONTRACTS: jsoncodecB1Clone (7), jsoncodecB1Equal (8), newline (10), ZZNewline (6).
-/
import Derived.Test.Qxb6623324aBytes
namespace Go.Proofs.Qxb6623324a
open Go.RowKit

theorem ret_bool {a b : Bool} (h : a = b) : Ending.returned (.bool a) = .returned (.bool b) := by rw [h]

/-- Some draws have been made; nothing else has turned. -/
def Drew (w w' : World) : Prop := ∃ q, w' = w.drewN q
theorem Drew.refl (w : World) : Drew w w := ⟨0, rfl⟩
theorem Drew.more {w w' : World} (h : Drew w w') (q : Nat) : Drew w (w'.drewN q) := by
  obtain ⟨p, rfl⟩ := h
  exact ⟨p + q, World.drewN_drewN _ _ _⟩
theorem Drew.heap {w w' : World} (h : Drew w w') : w'.heap = w.heap := by
  obtain ⟨q, rfl⟩ := h
  rfl
theorem Drew.cell {w w' : World} (h : Drew w w') (a : Addr) : w'.cell? a = w.cell? a := World.cell?_of_block (by rw [h.heap])
theorem Drew.below {w w' : World} (h : Drew w w') (B : Nat) : Below B w w' := by
  obtain ⟨q, rfl⟩ := h
  exact ⟨rfl, rfl, rfl, Nat.le_refl _, fun _ _ => rfl⟩
theorem Drew.own {w w' : World} (h : Drew w w') {B : Nat} {v : Value} {zs : List Int} (o : Own w B v zs) : Own w' B v zs := by
  obtain ⟨q, rfl⟩ := h
  exact o

def Row (w : World) (b off : Nat) (zs : List Int) : Prop := ∀ t, t < zs.length → w.cell? ⟨b, off + t, none⟩ = some (.int .u8 (zs.getD t 0))
theorem Row.drew {w w' : World} {b off : Nat} {zs : List Int} (h : Row w b off zs) (k : Drew w w') : Row w' b off zs := fun t ht => (k.cell _).trans (h t ht)

/-- What an owned slice looks like. -/
theorem Own.form {w : World} {B : Nat} {v : Value} {zs : List Int} (h : Own w B v zs) :
    (v = .slice none 0 0 ∧ zs = []) ∨ ∃ g cap, v = .slice (some ⟨g, 0, none⟩) zs.length cap ∧ B ≤ g ∧ g < w.heap.size ∧ Row w g 0 zs := by
  rcases h.2 with ⟨hv, hn⟩ | ⟨g, cap, cur, hv, hbg, hg, hnc, hcm, hcs, htake⟩
  · exact .inl ⟨hv, List.eq_nil_of_length_eq_zero hn⟩
  · refine .inr ⟨g, cap, hv, hbg, (Array.getElem?_eq_some_iff.1 hg).1, fun t ht => ?_⟩
    have := h.cells (g := g) (by rw [hv]; rfl) t (.int .u8 (zs.getD t 0)) (by simp [bc, List.getD, ht])
    rwa [Addr.add_lit] at this

/-- A counter up to n, in a world that has drawn. -/
def CntW (n : Nat) (w : World) (v : Value) (wr : World) : Prop := ∃ m : Nat, m ≤ n ∧ v = .int .i64 m ∧ Drew w wr

set_option maxHeartbeats 400000 in
theorem eq_any (b off c b' off' c' : Nat) (zs : List Int) (w : World) (hn : zs.length ≤ 9223372036854775806) (h1 : Row w b off zs) (h2 : Row w b' off' zs) :
    Calls Try.prog 8 #[.slice (some ⟨b, off, none⟩) zs.length c, .slice (some ⟨b', off', none⟩) zs.length c'] w fun e w' => e = .returned (.bool true) ∧ Drew w w' := by
  go_enter Try.func8, Try.ntmps8
  go_wp2
  go_loopw [5] (fun v wr => CntW zs.length w v wr) (fun v _ => zs.length - (intOf v).toNat)
  case atStart => exact ⟨0, Nat.zero_le _, rfl, Drew.refl _⟩
  case round =>
    obtain ⟨m, hm, rfl, hw⟩ := hrel
    by_cases hlt : m < zs.length
    · have hck := (h1.drew hw) m hlt
      have hck2 := (h2.drew hw) m hlt
      obtain ⟨x, hx⟩ : ∃ x, x = zs.getD m 0 := ⟨_, rfl⟩
      rw [← hx] at hck hck2
      clear hx
      go_wp2
      go_quiet (fail)
      go_wp2
      go_roundw
      case rel => exact ⟨m + 1, by omega, by go_num, hw.more _⟩
      case measure => simp [intOf]; omega
    · go_wp2
      go_ret
      exact ⟨rfl, hw⟩
theorem eq_nil (a a' : Option Addr) (c c' : Nat) (w : World) :
    Calls Try.prog 8 #[.slice a 0 c, .slice a' 0 c'] w fun e w' => e = .returned (.bool true) ∧ Drew w w' := by
  go_enter Try.func8, Try.ntmps8
  go_wp2
  refine wp_loop_rounds 1 ?_
  rw [rounds_succ]
  go_wp2
  go_ret
  exact ⟨rfl, Drew.refl _⟩
/-- Two owned slices of the same bytes are equal. -/
theorem eq_own {w : World} {B B' : Nat} {v v' : Value} {zs : List Int} (h : Own w B v zs) (h' : Own w B' v' zs) (hn : zs.length ≤ 1073741824) : Calls Try.prog 8 #[v, v'] w fun e w' => e = .returned (.bool true) ∧ Drew w w' := by
  rcases h.form with ⟨rfl, rfl⟩ | ⟨g, cap, rfl, _, _, hr⟩
  · rcases h'.form with ⟨rfl, _⟩ | ⟨g', cap', rfl, _, _, hr'⟩
    · exact eq_nil _ _ _ _ w
    · exact eq_nil _ _ _ _ w
  · rcases h'.form with ⟨rfl, rfl⟩ | ⟨g', cap', rfl, _, _, hr'⟩
    · exact eq_nil _ _ _ _ w
    · exact eq_any g 0 cap g' 0 cap' zs w (by omega) hr hr'

/-- A slice that can be read: nil, or its bytes lie from an address on. -/
def View (w : World) (v : Value) (zs : List Int) : Prop := (v = .slice none 0 0 ∧ zs = []) ∨ ∃ x c, v = .slice (some x) zs.length c ∧ ∀ j u, (bc zs)[j]? = some u → w.cell? (x.add j) = some u
theorem Own.view {w : World} {B : Nat} {v : Value} {zs : List Int} (h : Own w B v zs) : View w v zs := by
  rcases h.2 with ⟨hv, hn⟩ | ⟨g, cap, cur, hv, hbg, hg, hnc, hcm, hcs, htake⟩
  · exact .inl ⟨hv, List.eq_nil_of_length_eq_zero hn⟩
  · exact .inr ⟨_, cap, hv, h.cells (g := g) (by rw [hv]; rfl)⟩
theorem View.below {w w' : World} {v : Value} {zs : List Int} (h : View w v zs) (hb : Below w.heap.size w w') : View w' v zs := by
  rcases h with h | ⟨x, c, hv, hc⟩
  · exact .inl h
  · exact .inr ⟨x, c, hv, fun j u hj => (hb.cell (p := x.add j) (World.block_lt_of_cell? w _ (hc j u hj))).trans (hc j u hj)⟩
/-- .. as what an append takes. -/
theorem View.src {w : World} {v : Value} {zs : List Int} (h : View w v zs) : Go.Src Try.prog 1 22 v zs.length (bc zs) w := by
  rcases h with ⟨rfl, rfl⟩ | ⟨x, c, rfl, hc⟩
  · exact Go.Src.ofNil (P := Try.prog) w Try.underlying22 0
  · exact Go.Src.ofSlice (P := Try.prog) w Try.underlying22 x zs.length c (bc zs) (by rw [bc_length, Nat.mul_one]) hc (bc_one zs)

theorem made_row {w : World} {base g n : Nat} {xs : List Value} (h : w.ownsRow base 5 1 (.slice (some ⟨g, 0, none⟩) n n) n xs) : ∃ cur : List Value, w.heap[g]? = some (.cells cur.toArray 5 (0, 0)) ∧ cur.length = n := by
  obtain ⟨_, h2⟩ := h
  rcases h2 with ⟨h2, _⟩ | ⟨g', cap, cur, hv, hg, hh, _, _, hs, _⟩
  · cases h2
  · simp only [Value.slice.injEq, Option.some.injEq, Addr.mk.injEq] at hv
    obtain ⟨⟨rfl, _⟩, _, rfl⟩ := hv
    exact ⟨cur.toList, by simpa using hh, by simpa using hs⟩

def CloneOut (w : World) (zs : List Int) (e : Ending) (w' : World) : Prop := ∃ v', e = .returned v' ∧ Own w' w.heap.size v' zs ∧ w.grownBy w' none

set_option maxHeartbeats 400000 in
theorem clone_some (x : Addr) (c : Nat) (zs : List Int) (w : World) (hn : zs.length ≤ 1073741824) (hc : ∀ j u, (bc zs)[j]? = some u → w.cell? (x.add j) = some u) :
    Calls Try.prog 7 #[.slice (some x) zs.length c] w (CloneOut w zs) := by
  obtain ⟨i0, hi, hz0, hz1, hz2⟩ := info_parts Try.info5
  have HC0 : Hid (∀ j u, (bc zs)[j]? = some u → w.cell? (x.add j) = some u) := hc
  clear hc
  have heq := fun (w : World) (a : Option Addr) (n c n' c' : Nat) => Lib.run_eql_slice_nil (P := Try.prog) w 22 5 a n c n' c' Try.underlying22
  go_enter Try.func7, Try.ntmps7
  go_wp2_with (at_make; refine wpList_make_full _ rfl (.tmp 7) (.tmp 7) 22 rfl w.heap.size 5 i0 (.int .u8 0) 1 Try.underlying22 hi hz0 hz1 _ _ _ _ zs.length rfl rfl rfl rfl ?b2 ?b3 (Nat.le_refl _) ?_)
  case b2 => rw [hz2]; omega
  case b3 => unfold maxLen; omega
  intro w1 hown1 hgrow1
  obtain ⟨cur, hcur, hlen⟩ := made_row hown1
  have hbel1 : Below w.heap.size w w1 := (Below.refl _ _).grown hgrow1 (Nat.le_refl _) (fun k h => by cases h)
  have HC : Hid (w1.heap[w.heap.size]? = some (.cells cur.toArray 5 (0, 0))) := hcur
  have HL : Hid (cur.length = zs.length) := hlen
  have HC1 : Hid (∀ j u, (bc zs)[j]? = some u → w1.cell? (x.add j) = some u) := fun j u hj => (hbel1.cell (p := x.add j) (World.block_lt_of_cell? w _ (HC0.out j u hj))).trans (HC0.out j u hj)
  clear hown1 hgrow1 hcur hlen
  have hmin : (bc zs).length = Nat.min zs.length zs.length := by rw [bc_length]; simp
  have HM : Hid ((bc zs).length = Nat.min zs.length zs.length) := hmin
  have HF : Hid (0 + (bc zs).length ≤ cur.length) := show 0 + (bc zs).length ≤ cur.length from by rw [bc_length, HL.out]; omega
  clear hmin
  go_wp2_with (refine wpList_copy_splice rfl (.tmp 9) (.tmp 10) 22 22 rfl 5 Try.underlying22 size5 _ _ _ _ _ _ rfl rfl w.heap.size 0 cur 5 HC.out (bc zs) HM.out (fun _ => ⟨rfl, _, rfl, HC1.out⟩) HF.out (bc_one zs) w.heap.size w hbel1 (Nat.le_refl _) ?_)
  intro w2 hg2 hbel2
  go_wp2
  go_ret
  refine ⟨_, rfl, ?_, ⟨hbel2.os, hbel2.tape, hbel2.output, hbel2.size, fun k hk _ => hbel2.block k hk⟩⟩
  have e : splice cur 0 (bc zs) = bc zs := by
    have h1 : cur.length = (bc zs).length := by rw [bc_length]; exact HL.out
    simp [splice, h1]
  have hg := hg2.out
  rw [e] at hg
  exact ⟨by rw [bc_length, Nat.mul_one], .inr ⟨w.heap.size, zs.length, _, rfl, Nat.le_refl _, hg, Nat.le_refl _, by unfold maxLen; omega, by simp [bc], show List.take (zs.length * 1) (bc zs) = bc zs from List.take_of_length_le (by rw [bc_length]; omega)⟩⟩
theorem clone_nil (w : World) : Calls Try.prog 7 #[.slice none 0 0] w (CloneOut w []) := by
  have heq := fun (w : World) (a : Option Addr) (n c n' c' : Nat) => Lib.run_eql_slice_nil (P := Try.prog) w 22 5 a n c n' c' Try.underlying22
  go_enter Try.func7, Try.ntmps7
  go_wp2
  go_ret
  exact ⟨_, rfl, World.ownsRow_nil w _ 5 1, World.grownBy.refl w none⟩
theorem clone_any {w : World} {v : Value} {zs : List Int} (h : View w v zs) (hn : zs.length ≤ 1073741824) : Calls Try.prog 7 #[v] w (CloneOut w zs) := by
  rcases h with ⟨rfl, rfl⟩ | ⟨x, c, rfl, hc⟩
  · exact clone_nil w
  · exact clone_some x c zs w hn hc

/-- The encoder's block. -/
def EncAt (w : World) (b : Nat) (eh : Bool) (ind : ByteArray) (ke : Bool) (v : Value) (lvl : Int) : Prop := w.heap[b]? = some (.cells #[.bool eh, .string ind, .bool ke, v, .int .i64 lvl] 31 (0, 0))
theorem EncAt.ind {w : World} {b : Nat} {eh : Bool} {ind : ByteArray} {ke : Bool} {v : Value} {lvl : Int} (h : EncAt w b eh ind ke v lvl) : w.cell? ⟨b, 1, none⟩ = some (.string ind) := by
  unfold EncAt at h; simp [World.cell?, h]
theorem EncAt.buf {w : World} {b : Nat} {eh : Bool} {ind : ByteArray} {ke : Bool} {v : Value} {lvl : Int} (h : EncAt w b eh ind ke v lvl) : w.cell? ⟨b, 3, none⟩ = some v := by
  unfold EncAt at h; simp [World.cell?, h]
theorem EncAt.lvl {w : World} {b : Nat} {eh : Bool} {ind : ByteArray} {ke : Bool} {v : Value} {lvl : Int} (h : EncAt w b eh ind ke v lvl) : w.cell? ⟨b, 4, none⟩ = some (.int .i64 lvl) := by
  unfold EncAt at h; simp [World.cell?, h]
theorem EncAt.free {w : World} {b : Nat} {eh : Bool} {ind : ByteArray} {ke : Bool} {v : Value} {lvl : Int} (h : EncAt w b eh ind ke v lvl) : w.frozen? ⟨b, 3, none⟩ = false := by
  unfold EncAt at h; simp [World.frozen?, h]
theorem EncAt.lt {w : World} {b : Nat} {eh : Bool} {ind : ByteArray} {ke : Bool} {v : Value} {lvl : Int} (h : EncAt w b eh ind ke v lvl) : b < w.heap.size := (Array.getElem?_eq_some_iff.1 h).1
theorem EncAt.set {w : World} {b : Nat} {eh : Bool} {ind : ByteArray} {ke : Bool} {v : Value} {lvl : Int} (h : EncAt w b eh ind ke v lvl) (v' : Value) : EncAt (w.setCell ⟨b, 3, none⟩ v') b eh ind ke v' lvl := by
  unfold EncAt at h ⊢
  simp only [World.setCell, Array.getElem?_modify, if_true, h, Option.map_some]
  rfl
theorem EncAt.drew {w w' : World} {b : Nat} {eh : Bool} {ind : ByteArray} {ke : Bool} {v : Value} {lvl : Int} (h : EncAt w b eh ind ke v lvl) (k : Drew w w') : EncAt w' b eh ind ke v lvl := by
  unfold EncAt at h ⊢; rw [k.heap]; exact h
theorem EncAt.grown {w w' : World} {b : Nat} {eh : Bool} {ind : ByteArray} {ke : Bool} {v : Value} {lvl : Int} {row : Option Nat} (h : EncAt w b eh ind ke v lvl) (hg : w.grownBy w' row) (hne : row ≠ some b) : EncAt w' b eh ind ke v lvl := by
  unfold EncAt at h ⊢
  rw [hg.block b (Array.getElem?_eq_some_iff.1 h).1 (fun e => hne e.symm)]
  exact h

theorem EncAt.grown2 {w w' : World} {b : Nat} {eh : Bool} {ind : ByteArray} {ke : Bool} {v : Value} {lvl : Int} {row : Option Nat} (hg : w.grownBy w' row) (hne : row ≠ some b) (h : EncAt w b eh ind ke v lvl) : EncAt w' b eh ind ke v lvl := h.grown hg hne

theorem Own.slice {w : World} {B : Nat} {v : Value} {zs : List Int} (h : Own w B v zs) : ∃ a c, v = .slice a zs.length c := by
  rcases h.2 with ⟨hv, hn⟩ | ⟨g, cap, cur, hv, _⟩
  · exact ⟨none, 0, by rw [hv, hn]⟩
  · exact ⟨_, cap, hv⟩
theorem Own.lt {w : World} {B : Nat} {v : Value} {zs : List Int} (h : Own w B v zs) : ∀ k, v.ownBlock = some k → B ≤ k ∧ k < w.heap.size := World.ownsRow.lt h
theorem Own.setCell {w : World} {B b o : Nat} {v : Value} {zs : List Int} (h : Own w B v zs) (hne : v.ownBlock ≠ some b) (u : Value) : Own (w.setCell ⟨b, o, none⟩ u) B v zs := by
  refine ⟨h.1, ?_⟩
  rcases h.2 with h2 | ⟨g, cap, cur, hv, hg, hh, r⟩
  · exact .inl h2
  · refine .inr ⟨g, cap, cur, hv, hg, ?_, r⟩
    rw [Below.heap_setCell _ _ _ _ (fun e => hne (by rw [hv]; simp [Value.ownBlock, e]))]
    exact hh
theorem Own.alloc {w : World} {B : Nat} {v : Value} {zs : List Int} (h : Own w B v zs) (o : Obj) : Own (w.alloc o) B v zs := World.ownsRow.alloc h o
theorem Own.kept {w w' : World} {B : Nat} {v : Value} {zs : List Int} {row : Option Nat} (h : Own w B v zs) (hg : w.grownBy w' row) (hne : v.ownBlock = none ∨ v.ownBlock ≠ row) : Own w' B v zs := World.ownsRow.kept h hg hne

/-- New blocks, and writes to block b and to one row. -/
structure Chg (w w' : World) (b : Nat) (row : Option Nat) : Prop where
  os : w'.os = w.os
  tape : w'.tape = w.tape
  output : w'.output = w.output
  size : w.heap.size ≤ w'.heap.size
  block : ∀ k, k < w.heap.size → k ≠ b → some k ≠ row → w'.heap[k]? = w.heap[k]?
theorem Chg.refl (w : World) (b : Nat) (row : Option Nat) : Chg w w b row := ⟨rfl, rfl, rfl, Nat.le_refl _, fun _ _ _ _ => rfl⟩
/-- .. then an append to a row that is that one or new, and a store into block b. -/
theorem Chg.step {w wr w1 : World} {b : Nat} {row r1 : Option Nat} (h : Chg w wr b row) (hg : wr.grownBy w1 r1) (hr : r1 = row ∨ ∀ k, r1 = some k → w.heap.size ≤ k) (o : Nat) (u : Value) : Chg w (w1.setCell ⟨b, o, none⟩ u) b row := by
  refine ⟨hg.os.trans h.os, hg.tape.trans h.tape, hg.output.trans h.output, ?_, ?_⟩
  · have e : (w1.setCell ⟨b, o, none⟩ u).heap.size = w1.heap.size := by simp [World.setCell]
    rw [e]
    exact Nat.le_trans h.size hg.size
  · intro k hk hkb hkr
    rw [Below.heap_setCell _ _ _ _ hkb, hg.block k (Nat.lt_of_lt_of_le hk h.size) ?_, h.block k hk hkb hkr]
    intro e
    rcases hr with hr | hr
    · exact hkr (e.trans hr)
    · have := hr k e.symm
      omega
theorem Chg.drew {w wr wr' : World} {b : Nat} {row : Option Nat} (h : Chg w wr b row) (k : Drew wr wr') : Chg w wr' b row := by
  obtain ⟨q, rfl⟩ := k
  exact ⟨h.os, h.tape, h.output, h.size, h.block⟩

/-- k times the list. -/
def rep (l : List Int) : Nat → List Int
  | 0 => []
  | k + 1 => rep l k ++ l
theorem rep_length (l : List Int) (k : Nat) : (rep l k).length = k * l.length := by
  induction k with
  | zero => simp [rep]
  | succ k ih => simp [rep, ih, Nat.succ_mul]

theorem view_one (w : World) (x : Int) : View (w.alloc (.cells #[.int .u8 x] 5)) (.slice (some ⟨w.heap.size, 0, none⟩) 1 1) [x] := by
  refine .inr ⟨_, 1, rfl, ?_⟩
  intro j u hj
  match j, hj with
  | 0, hj => simp [bc] at hj; subst hj; simp [Addr.add]
  | n + 1, hj => simp [bc] at hj

/-- The loop's head. -/
structure NLAt (w : World) (b B : Nat) (eh : Bool) (ind : ByteArray) (ke : Bool) (lvl : Nat) (row : Option Nat) (zs : List Int) (c : Value) (wr : World) (k : Nat) (ls : List Int) (a : Option Addr) (cp : Nat) : Prop where
  le : k ≤ lvl
  cnt : c = .int .i64 k
  eq : ls = zs ++ rep (sb ind) k
  enc : EncAt wr b eh ind ke (.slice a ls.length cp) lvl
  own : Own wr B (.slice a ls.length cp) ls
  chg : Chg w wr b row
  blk : Value.ownBlock (.slice a ls.length cp) = row ∨ ∀ j, Value.ownBlock (.slice a ls.length cp) = some j → w.heap.size ≤ j
  ne : Value.ownBlock (.slice a ls.length cp) ≠ some b

def NLOut (w : World) (b B : Nat) (eh : Bool) (ind : ByteArray) (ke : Bool) (lvl : Nat) (row : Option Nat) (zs : List Int) (e : Ending) (w' : World) : Prop :=
  ∃ v', e = .returned (.tuple #[]) ∧ EncAt w' b eh ind ke v' lvl ∧ Own w' B v' zs ∧ Chg w w' b row

set_option maxHeartbeats 1000000 in
theorem newline_some (b B : Nat) (eh : Bool) (ind : ByteArray) (ke : Bool) (v : Value) (lvl : Nat) (xs : List Int) (w : World) (hE : EncAt w b eh ind ke v lvl) (hO : Own w B v xs) (hne : v.ownBlock ≠ some b) (hB : B ≤ w.heap.size)
    (hind : ind.toList.isEmpty = false) (hsz : ind.size ≤ 4096) (hlv : lvl ≤ 1025) (hx : xs.length ≤ 1048576) (zs : List Int) (hzs : zs = xs ++ [10]) :
    Calls Try.prog 10 #[.pointer (some ⟨b, 0, none⟩)] w (NLOut w b B eh ind ke lvl v.ownBlock (zs ++ rep (sb ind) lvl)) := by
  have HZ : Hid (zs = xs ++ [10]) := hzs
  clear hzs
  obtain ⟨a0, cp0, hv⟩ := hO.slice
  subst hv
  have c1 := hE.ind
  have c3 := hE.buf
  have HEn : Hid (EncAt w b eh ind ke (.slice a0 xs.length cp0) lvl) := hE
  have HOa := hO.alloc (.cells #[.int .u8 10] 5)
  have HV1 := (view_one w 10).src
  have hlt := hE.lt
  clear hE
  go_enter Try.func10, Try.ntmps10
  go_wp2_with (at_builtin; refine wpList_append_bytes rfl (.tmp 12) (.tmp 13) 22 rfl B _ xs rfl HOa _ rfl [10] HV1 ?b1 ?b2 ?_)
  case b1 => simp; omega
  case b2 => simp; omega
  intro v1 w1 hown1 hgrow1 hblk1
  rw [← HZ.out] at hown1
  have hzl : zs.length = xs.length + 1 := by rw [HZ.out]; simp
  have hzb : zs.length ≤ 1048577 := by omega
  obtain ⟨a1, cp1, hv1⟩ := hown1.slice
  subst hv1
  have hne1 : Value.ownBlock (.slice a1 zs.length cp1) ≠ some b := by
    rcases hblk1 with h | h
    · rw [h]; exact hne
    · rw [h]; simp; omega
  have E1 : EncAt w1 b eh ind ke (.slice a0 xs.length cp0) lvl := by
    have e0 : EncAt (w.alloc (.cells #[.int .u8 10] 5)) b eh ind ke (.slice a0 xs.length cp0) lvl := HEn.out.grown (World.grownBy_alloc w _ none) (by simp)
    exact e0.grown hgrow1 hne
  have d3 := E1.buf
  have f3 := E1.free
  have E2 := E1.set (.slice a1 zs.length cp1)
  have O2 : Own (w1.setCell ⟨b, 3, none⟩ (.slice a1 zs.length cp1)) B (.slice a1 zs.length cp1) zs := hown1.setCell hne1 _
  have d4 := E2.lvl
  have C2 : Chg w (w1.setCell ⟨b, 3, none⟩ (.slice a1 zs.length cp1)) b (Value.ownBlock (.slice a0 xs.length cp0)) := by
    have g0 : w.grownBy w1 (Value.ownBlock (.slice a0 xs.length cp0)) := by
      refine ⟨hgrow1.os, hgrow1.tape, hgrow1.output, Nat.le_trans (by simp) hgrow1.size, fun k hk hkr => ?_⟩
      rw [hgrow1.block k (by simp; omega) hkr]
      exact Below.heap_alloc w _ k hk
    exact (Chg.refl w b _).step g0 (.inl rfl) 3 _
  have K2 : Value.ownBlock (.slice a1 zs.length cp1) = Value.ownBlock (.slice a0 xs.length cp0) ∨ ∀ j, Value.ownBlock (.slice a1 zs.length cp1) = some j → w.heap.size ≤ j := by
    rcases hblk1 with h | h
    · exact .inl h
    · refine .inr fun j hj => ?_
      rw [h] at hj
      simp at hj
      omega
  have HK2 : Hid (_ ∨ _) := K2
  have HN1 : Hid (_ ≠ _) := hne1
  have HE2 : Hid (EncAt _ _ _ _ _ _ _) := E2
  have HO2 : Hid (Own _ _ _ _) := O2
  have HC2 : Hid (Chg _ _ _ _) := C2
  clear hzl hown1 hgrow1 hblk1 E1 HEn HOa HV1 K2 hne1 E2 O2 C2 hO
  have hsl : (sb ind).length ≤ 4096 := by rw [sb_length]; exact hsz
  go_wp2
  go_loopw [21] (fun c wr => ∃ k ls a cp, NLAt w b B eh ind ke lvl (Value.ownBlock (.slice a0 xs.length cp0)) zs c wr k ls a cp) (fun c _ => lvl - (intOf c).toNat)
  case atStart => exact ⟨0, zs, a1, cp1, Nat.zero_le _, rfl, by simp [rep], HE2.out, HO2.out, HC2.out, HK2.out, HN1.out⟩
  case round =>
    clear HE2 HO2 HC2 HK2 HN1 d3 f3 d4 c1 c3
    obtain ⟨k, ls, a, cp, hle, rfl, heq, hEnc, hOwn, hChg, hBlk, hNe⟩ := hrel
    have HEq : Hid (ls = zs ++ rep (sb ind) k) := heq
    have hBs : B ≤ wr.heap.size := Nat.le_trans hB hChg.size
    have HEnc : Hid (EncAt wr b eh ind ke (.slice a ls.length cp) lvl) := hEnc
    have HOwn : Hid (Own wr B (.slice a ls.length cp) ls) := hOwn
    have HChg : Hid (Chg w wr b (Value.ownBlock (.slice a0 xs.length cp0))) := hChg
    have HBlk : Hid (Value.ownBlock (.slice a ls.length cp) = Value.ownBlock (.slice a0 xs.length cp0) ∨ ∀ j, Value.ownBlock (.slice a ls.length cp) = some j → w.heap.size ≤ j) := hBlk
    have HNe : Hid (Value.ownBlock (.slice a ls.length cp) ≠ some b) := hNe
    clear heq hEnc hOwn hChg hBlk hNe
    by_cases hlt : k < lvl
    · have e1 := HEnc.out.ind
      have e3 := HEnc.out.buf
      obtain ⟨ls2, hls2⟩ : ∃ ls2, ls2 = ls ++ sb ind := ⟨_, rfl⟩
      have HL2 : Hid (ls2 = ls ++ sb ind) := hls2
      have hll : ls.length + (sb ind).length ≤ 1073741824 := by
        rw [HEq.out, List.length_append, rep_length]
        have : k * (sb ind).length ≤ 1025 * 4096 := Nat.mul_le_mul (by omega) hsl
        omega
      clear hls2
      go_wp2
      go_region_law (refine step_append_bytes rfl (.tmp 27) (.tmp 32) 9 rfl B (.slice a ls.length cp) ls ?_ HOwn.out (.string ind) ?_ (sb ind) (src_string _ ind) hll hBs ?_; rfl; rfl; intro v2 w2 hown2 hgrow2 hblk2; rw [← HL2.out] at hown2; obtain ⟨a2, cp2, hv2⟩ := hown2.slice; subst hv2; have E2 := EncAt.grown2 hgrow2 HNe.out HEnc.out; have g3 := E2.buf; have h3 := E2.free)
      all_goals
        have hne2 : Value.ownBlock (.slice a2 ls2.length cp2) ≠ some b := by
          rcases hblk2 with h | h
          · rw [h]; exact HNe.out
          · rw [h]
            intro h'
            have h1 := Option.some.inj h'
            have h2 := HEnc.out.lt
            exact absurd h1 (Nat.ne_of_gt h2)
        have C2 : Chg w (w2.setCell ⟨b, 3, none⟩ (.slice a2 ls2.length cp2)) b (Value.ownBlock (.slice a0 xs.length cp0)) := (Chg.drew HChg.out ⟨1, rfl⟩).step hgrow2 HBlk.out 3 _
        have K2 : Value.ownBlock (.slice a2 ls2.length cp2) = Value.ownBlock (.slice a0 xs.length cp0) ∨ ∀ j, Value.ownBlock (.slice a2 ls2.length cp2) = some j → w.heap.size ≤ j := by
          rcases hblk2 with h | h
          · rw [h]; exact HBlk.out
          · refine .inr fun j hj => ?_
            rw [h] at hj
            have h1 := Option.some.inj hj
            have h2 := HChg.out.size
            exact h1 ▸ h2
        have O2 := hown2.setCell hne2 (b := b) (o := 3) (.slice a2 ls2.length cp2)
        have E3 := E2.set (.slice a2 ls2.length cp2)
        have HC2 : Hid (Chg _ _ _ _) := C2
        have HK2 : Hid (_ ∨ _) := K2
        have HN2 : Hid (_ ≠ _) := hne2
        have HO2 : Hid (Own _ _ _ _) := O2
        have HE3 : Hid (EncAt _ _ _ _ _ _ _) := E3
        clear hne2 C2 K2 O2 E3 E2 g3 h3 hgrow2 hblk2 hown2 HChg HBlk HNe HOwn HEnc e1 e3
        go_wp2
        go_roundw
        case rel => exact ⟨k + 1, ls2, a2, cp2, by omega, by go_num, by rw [HL2.out, HEq.out, List.append_assoc]; rfl, HE3.out, HO2.out, HC2.out, HK2.out, HN2.out⟩
        case measure => simp [intOf]; omega
    · have hk : k = lvl := by omega
      subst hk
      go_wp2
      go_end0
      refine ⟨_, rfl, HEnc.out, ?_, HChg.out⟩
      rw [← HEq.out]
      exact HOwn.out

theorem newline_none (b B : Nat) (eh : Bool) (ind : ByteArray) (ke : Bool) (v : Value) (lvl : Nat) (xs : List Int) (w : World) (hE : EncAt w b eh ind ke v lvl) (hO : Own w B v xs) (hind : ind.toList.isEmpty = true) :
    Calls Try.prog 10 #[.pointer (some ⟨b, 0, none⟩)] w (NLOut w b B eh ind ke lvl v.ownBlock xs) := by
  have c1 := hE.ind
  go_enter Try.func10, Try.ntmps10
  go_wp2
  go_end0
  exact ⟨v, rfl, hE, hO, Chg.refl _ _ _⟩

/-- What newline leaves in the buffer. -/
def nl (xs : List Int) (ind : ByteArray) (lvl : Nat) : List Int := if ind.toList.isEmpty then xs else xs ++ [10] ++ rep (sb ind) lvl
theorem newline_any (b B : Nat) (eh : Bool) (ind : ByteArray) (ke : Bool) (v : Value) (lvl : Nat) (xs : List Int) (w : World) (hE : EncAt w b eh ind ke v lvl) (hO : Own w B v xs) (hne : v.ownBlock ≠ some b) (hB : B ≤ w.heap.size)
    (hsz : ind.size ≤ 4096) (hlv : lvl ≤ 1025) (hx : xs.length ≤ 1048576) :
    Calls Try.prog 10 #[.pointer (some ⟨b, 0, none⟩)] w (NLOut w b B eh ind ke lvl v.ownBlock (nl xs ind lvl)) := by
  cases hind : ind.toList.isEmpty with
  | true =>
    have e : nl xs ind lvl = xs := by rw [nl, hind]; rfl
    rw [e]
    exact newline_none b B eh ind ke v lvl xs w hE hO hind
  | false =>
    have e : nl xs ind lvl = xs ++ [10] ++ rep (sb ind) lvl := by rw [nl, hind]; rfl
    rw [e]
    exact newline_some b B eh ind ke v lvl xs w hE hO hne hB hind hsz hlv hx _ rfl

def ZZOut (w : World) (B : Nat) (row : Option Nat) (zs : List Int) (e : Ending) (w' : World) : Prop := ∃ v', e = .returned v' ∧ Own w' B v' zs ∧ w.grownBy w' row

set_option maxHeartbeats 400000 in
theorem zz_any (eh : Bool) (ind : ByteArray) (ke : Bool) (v : Value) (lvl : Nat) (xs : List Int) (w : World) (B : Nat) (hO : Own w B v xs) (hB : B ≤ w.heap.size) (hsz : ind.size ≤ 4096) (hlv : lvl ≤ 1025) (hx : xs.length ≤ 1048576) :
    Calls Try.prog 6 #[.bool eh, .string ind, .bool ke, v, .int .i64 lvl] w (ZZOut w B v.ownBlock (nl xs ind lvl)) := by
  obtain ⟨a0, cp0, hv⟩ := hO.slice
  subst hv
  have HO : Hid (Own w B (.slice a0 xs.length cp0) xs) := hO
  have HN : Hid (Value.ownBlock (.slice a0 xs.length cp0) ≠ some w.heap.size) := fun h => by
    have := (hO.lt _ h).2
    omega
  clear hO
  go_enter Try.func6, Try.ntmps6
  go_wp2_with fail
  refine (newline_any w.heap.size B eh ind ke (.slice a0 xs.length cp0) lvl xs _ (by exact heap_alloc_new w _) (by exact HO.out.alloc _) HN.out (by simp; omega) hsz hlv hx).mono ?_
  rintro e w' ⟨v', rfl, hE', hO', hC'⟩
  obtain ⟨a1, cp1, hv1⟩ := hO'.slice
  obtain ⟨n1, hn1⟩ : ∃ n1, n1 = (nl xs ind lvl).length := ⟨_, rfl⟩
  rw [← hn1] at hv1
  subst hv1
  have c3 := hE'.buf
  have HO' : Hid (Own _ _ _ _) := hO'
  have HG : Hid (w.grownBy w' (Value.ownBlock (.slice a0 xs.length cp0))) := by
    refine ⟨hC'.os, hC'.tape, hC'.output, Nat.le_trans (by simp) hC'.size, fun k hk hkr => ?_⟩
    rw [hC'.block k (by simp; omega) (by omega) hkr]
    exact Below.heap_alloc w _ k hk
  clear hO' hC' hE' hn1
  go_wp2
  go_ret
  exact ⟨_, rfl, HO'.out, HG.out⟩

end Go.Proofs.Qxb6623324a
