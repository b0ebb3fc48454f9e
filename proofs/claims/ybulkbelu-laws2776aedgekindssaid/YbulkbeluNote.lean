/-
  (*Flow).note BY ITS CONTRACT: the struct behind the receiver, field by field; the two lists of the call's own.
-/
import Derived.Test.YbulkbeluAdd
import Derived.Deep.RegionWith
namespace Go.Proofs.Ybulkbelu
open Go.RowKit

abbrev flowCells (acc : Bool) (s0 s1 s2 s3 u : Int) (v1 v2 : Value) : Array Value := #[.bool acc, .int .u64 s0, .int .u64 s1, .int .u64 s2, .int .u64 s3, .int .u64 u, v1, v2]
/-- The Flow at block fb. -/
def FlowAt (w : World) (fb : Nat) (acc : Bool) (s0 s1 s2 s3 u : Int) (v1 v2 : Value) : Prop := w.heap[fb]? = some (.cells (flowCells acc s0 s1 s2 s3 u v1 v2) 32 (0, 0))

/-- Word i behind SetBit(k), and the fifth word. -/
def sw (s i k : Int) : Int := if k / 64 = i then orBit s (k % 64) else s
def uw (u k : Int) : Int := if k < 192 then u else orBit u (k - 192)

section
variable {w : World} {fb : Nat} {acc : Bool} {s0 s1 s2 s3 u : Int} {v1 v2 : Value}
theorem FlowAt.cell (h : FlowAt w fb acc s0 s1 s2 s3 u v1 v2) (j : Nat) : w.cell? ⟨fb, j, none⟩ = (flowCells acc s0 s1 s2 s3 u v1 v2)[j]? := cell_of_row w fb j _ _ (0, 0) h
theorem FlowAt.frozen (h : FlowAt w fb acc s0 s1 s2 s3 u v1 v2) (j : Nat) : w.frozen? ⟨fb, j, none⟩ = false := frozen_of_row w fb j _ _ h
theorem FlowAt.lt (h : FlowAt w fb acc s0 s1 s2 s3 u v1 v2) : fb < w.heap.size := by
  rcases Nat.lt_or_ge fb w.heap.size with h' | h'
  · exact h'
  · unfold FlowAt at h; simp [Array.getElem?_eq_none h'] at h
theorem FlowAt.set (h : FlowAt w fb acc s0 s1 s2 s3 u v1 v2) (j : Nat) (x : Value) : (w.setCell ⟨fb, j, none⟩ x).heap[fb]? = some (.cells ((flowCells acc s0 s1 s2 s3 u v1 v2).setIfInBounds j x) 32 (0, 0)) :=
  heap_setCell_same w fb j _ _ x h
/-- The row of a list is not the Flow's. -/
theorem FlowAt.apart {base n : Nat} {v : Value} {xs : List Value} (h : FlowAt w fb acc s0 s1 s2 s3 u v1 v2) (ho : w.ownsRow base 34 1 v n xs) : v.ownBlock ≠ some fb := by
  rcases ho.2 with ⟨rfl, _⟩ | ⟨g, cap, cur, rfl, _, hg, _⟩
  · simp [Value.ownBlock]
  · simp only [Value.ownBlock]
    intro e
    obtain rfl := Option.some.inj e
    rw [h] at hg
    simp at hg
end

theorem ownsRow_set_other {w : World} {base : Nat} {v : Value} {n : Nat} {xs : List Value} {fb j : Nat} (h : w.ownsRow base 34 1 v n xs) (hne : v.ownBlock ≠ some fb) (x : Value) : (w.setCell ⟨fb, j, none⟩ x).ownsRow base 34 1 v n xs :=
  h.kept (row := some fb) ⟨rfl, rfl, rfl, by simp, fun k _ hk => heap_setCell_other w ⟨fb, j, none⟩ k x (fun e => hk (by simp [e]))⟩ (.inr hne)

/-- A start of the call: the Flow, its two lists, the data. -/
structure NoteAt (w : World) (base fb : Nat) (acc : Bool) (s0 s1 s2 s3 u : Int) (v1 v2 : Value) (xs ys : List Int) : Prop where
  flow : FlowAt w fb acc s0 s1 s2 s3 u v1 v2
  o1 : w.ownsRow base 34 1 v1 xs.length (xs.map (Value.int .u16))
  o2 : w.ownsRow base 34 1 v2 ys.length (ys.map (Value.int .u16))
  ne : v1.ownBlock = none ∨ v1.ownBlock ≠ v2.ownBlock
  lo : base ≤ fb

/-- What note leaves. -/
def NoteEnd (w w' : World) (base fb : Nat) (acc : Bool) (s0 s1 s2 s3 u : Int) (xs ys : List Int) : Prop :=
  ∃ v1 v2, FlowAt w' fb acc s0 s1 s2 s3 u v1 v2 ∧ w'.ownsRow base 34 1 v1 xs.length (xs.map (Value.int .u16)) ∧ w'.ownsRow base 34 1 v2 ys.length (ys.map (Value.int .u16)) ∧ Below base w w'

section
variable {w : World} {base fb : Nat} {acc : Bool} {s0 s1 s2 s3 u : Int} {v1 v2 : Value} {xs ys : List Int}
/-- Behind SetBit. -/
theorem NoteAt.bit (h : NoteAt w base fb acc s0 s1 s2 s3 u v1 v2 xs ys) (k : Int) (q : Nat) (hk : k / 64 = (q : Int)) (hk3 : q < 3) (s : Int) (hc : w.cell? ⟨fb, 1 + q, none⟩ = some (.int .u64 s)) :
    NoteAt ((w.setCell ⟨fb, 1 + q, none⟩ (.int .u64 (orBit s (k % 64)))).drew) base fb acc (sw s0 0 k) (sw s1 1 k) (sw s2 2 k) s3 u v1 v2 xs ys := by
  refine ⟨?_, (ownsRow_set_other h.o1 (h.flow.apart h.o1) _).drew, (ownsRow_set_other h.o2 (h.flow.apart h.o2) _).drew, h.ne, h.lo⟩
  have hs := h.flow.set (1 + q) (.int .u64 (orBit s (k % 64)))
  rw [h.flow.cell] at hc
  show (w.setCell ⟨fb, 1 + q, none⟩ _).heap[fb]? = _
  rw [hs]
  unfold sw
  rw [hk]
  match q, hk3 with
  | 0, _ => simp at hc; subst hc; simp
  | 1, _ => simp at hc; subst hc; simp
  | 2, _ => simp at hc; subst hc; simp
/-- Behind the fifth word's store. -/
theorem NoteAt.uns (h : NoteAt w base fb acc s0 s1 s2 s3 u v1 v2 xs ys) (x : Int) : NoteAt (w.setCell ⟨fb, 5, none⟩ (.int .u64 x)) base fb acc s0 s1 s2 s3 x v1 v2 xs ys := by
  refine ⟨?_, ownsRow_set_other h.o1 (h.flow.apart h.o1) _, ownsRow_set_other h.o2 (h.flow.apart h.o2) _, h.ne, h.lo⟩
  have hs := h.flow.set 5 (.int .u64 x)
  show (w.setCell ⟨fb, 5, none⟩ _).heap[fb]? = _
  rw [hs]
  simp
/-- Behind the first list's growth and its store. -/
theorem NoteAt.list1 (h : NoteAt w base fb acc s0 s1 s2 s3 u v1 v2 xs ys) {w' : World} {v' : Value} {zs : List Int} (ho : w'.ownsRow base 34 1 v' zs.length (zs.map (Value.int .u16))) (hg : w.grownBy w' v1.ownBlock) :
    NoteEnd w (w'.setCell ⟨fb, 6, none⟩ v') base fb acc s0 s1 s2 s3 u zs ys := by
  have hf : FlowAt w' fb acc s0 s1 s2 s3 u v1 v2 := (hg.block fb h.flow.lt (fun e => h.flow.apart h.o1 e.symm)).trans h.flow
  have ho2 : w'.ownsRow base 34 1 v2 ys.length (ys.map (Value.int .u16)) := h.o2.kept hg (by
    rcases h.ne with e | e
    · rw [e]; cases v2.ownBlock <;> simp
    · exact .inr (Ne.symm e))
  refine ⟨v', v2, ?_, ownsRow_set_other ho (hf.apart ho) _, ownsRow_set_other ho2 (hf.apart ho2) _, ?_⟩
  · show (w'.setCell ⟨fb, 6, none⟩ _).heap[fb]? = _
    rw [hf.set 6 v']
    simp
  · refine Below.setCell ⟨hg.os, hg.tape, hg.output, hg.size, fun k hk => hg.block k (by have := h.flow.lt; have := h.lo; omega) (fun e => ?_)⟩ h.lo _
    have := (h.o1.lt k e.symm).1
    omega
theorem NoteAt.list2 (h : NoteAt w base fb acc s0 s1 s2 s3 u v1 v2 xs ys) {w' : World} {v' : Value} {zs : List Int} (ho : w'.ownsRow base 34 1 v' zs.length (zs.map (Value.int .u16))) (hg : w.grownBy w' v2.ownBlock) :
    NoteEnd w (w'.setCell ⟨fb, 7, none⟩ v') base fb acc s0 s1 s2 s3 u xs zs := by
  have hf : FlowAt w' fb acc s0 s1 s2 s3 u v1 v2 := (hg.block fb h.flow.lt (fun e => h.flow.apart h.o2 e.symm)).trans h.flow
  have ho1 : w'.ownsRow base 34 1 v1 xs.length (xs.map (Value.int .u16)) := h.o1.kept hg h.ne
  refine ⟨v1, v', ?_, ownsRow_set_other ho1 (hf.apart ho1) _, ownsRow_set_other ho (hf.apart ho) _, ?_⟩
  · show (w'.setCell ⟨fb, 7, none⟩ _).heap[fb]? = _
    rw [hf.set 7 v']
    simp
  · refine Below.setCell ⟨hg.os, hg.tape, hg.output, hg.size, fun k hk => hg.block k (by have := h.flow.lt; have := h.lo; omega) (fun e => ?_)⟩ h.lo _
    have := (h.o2.lt k e.symm).1
    omega
theorem NoteAt.stay (h : NoteAt w base fb acc s0 s1 s2 s3 u v1 v2 xs ys) : NoteEnd w w base fb acc s0 s1 s2 s3 u xs ys := ⟨v1, v2, h.flow, h.o1, h.o2, Below.refl _ _⟩
end

theorem grown_then {w w1 w2 : World} {row : Option Nat} (h : w.grownBy w1 none) (h2 : w1.grownBy w2 row) : w.grownBy w2 row :=
  ⟨h2.os.trans h.os, h2.tape.trans h.tape, h2.output.trans h.output, Nat.le_trans h.size h2.size, fun k hk hne => (h2.block k (Nat.lt_of_lt_of_le hk h.size) hne).trans (h.block k hk (by simp))⟩

theorem grownBy_frozen {w w' : World} {row : Option Nat} (hg : w.grownBy w' row) {a : Addr} (h : a.block < w.heap.size) (hne : some a.block ≠ row) : w'.frozen? a = w.frozen? a := World.frozen?_of_block (hg.block a.block h hne)

theorem grownBy_undrew {w w' : World} {row : Option Nat} (h : w.drew.grownBy w' row) : w.grownBy w' row := ⟨h.os, h.tape, h.output, h.size, h.block⟩

/-- The two bytes that note reads. -/
def Bytes2 (w : World) (base : Nat) (da : Option Addr) (d0 d1 : Int) : Prop :=
  ∃ b off, da = some ⟨b, off, none⟩ ∧ b < base ∧ w.cell? ⟨b, off, none⟩ = some (.int .u8 d0) ∧ w.cell? ⟨b, off + 1, none⟩ = some (.int .u8 d1) ∧ (0 ≤ d0 ∧ d0 ≤ 255) ∧ 0 ≤ d1 ∧ d1 ≤ 255

theorem NoteEnd.from {w w1 w' : World} {base fb : Nat} {acc : Bool} {s0 s1 s2 s3 u : Int} {xs ys : List Int} (h : NoteEnd w1 w' base fb acc s0 s1 s2 s3 u xs ys) (hb : Below base w w1) : NoteEnd w w' base fb acc s0 s1 s2 s3 u xs ys := by
  obtain ⟨v1, v2, a, b, c, d⟩ := h
  exact ⟨v1, v2, a, b, c, hb.trans d⟩
theorem NoteEnd.draw {w w' : World} {base fb : Nat} {acc : Bool} {s0 s1 s2 s3 u : Int} {xs ys : List Int} (h : NoteEnd w w' base fb acc s0 s1 s2 s3 u xs ys) : NoteEnd w w'.drew base fb acc s0 s1 s2 s3 u xs ys := by
  obtain ⟨v1, v2, a, b, c, d⟩ := h
  exact ⟨v1, v2, a, b.drew, c.drew, d.drew⟩
theorem sw_high {s i k : Int} (h : 192 ≤ k) (hi : i < 3) : sw s i k = s := by
  unfold sw
  rw [if_neg (by omega)]

set_option maxHeartbeats 1600000 in
theorem note_low_short (base fb : Nat) (acc : Bool) (s0 s1 s2 s3 u : Int) (v1 v2 : Value) (xs ys : List Int) (k : Int) (da : Option Addr) (dl dc : Nat) (w : World) (h : NoteAt w base fb acc s0 s1 s2 s3 u v1 v2 xs ys)
    (h0 : 0 ≤ k) (h1 : k < 192) (hd : dl < 2) :
    Calls Yba.prog 8 #[.pointer (some ⟨fb, 0, none⟩), .int .u8 k, .slice da dl dc] w fun e w' => e = .returned (.tuple #[]) ∧ NoteEnd w w' base fb acc (sw s0 0 k) (sw s1 1 k) (sw s2 2 k) s3 (uw u k)  xs ys := by
  obtain ⟨q, hq⟩ : ∃ q : Nat, k / 64 = (q : Int) := ⟨(k / 64).toNat, by omega⟩
  have hq3 : q < 3 := by omega
  obtain ⟨s, hs⟩ : ∃ s, w.cell? ⟨fb, 1 + q, none⟩ = some (.int .u64 s) := by
    rw [h.flow.cell]
    match q, hq3 with
    | 0, _ => exact ⟨_, rfl⟩
    | 1, _ => exact ⟨_, rfl⟩
    | 2, _ => exact ⟨_, rfl⟩
  have hfz := h.flow.frozen (1 + q)
  have hN := h.bit k q hq hq3 s hs
  have hbl : Below base w ((w.setCell ⟨fb, 1 + q, none⟩ (.int .u64 (orBit s (k % 64)))).drew) := ((Below.refl _ _).setCell h.lo _).drew
  have hu : uw u k = u := by simp [uw, h1]
  rw [hu]
  have HQ : Hid (k / 64 = (q : Int)) := hq
  clear hq
  go_enter Yba.func8, Yba.ntmps8
  go_wp2_with (go_at_call 11; refine (setBit_any fb q k s _ HQ.out h0 (by omega) hs hfz).mono ?_; rintro e w' ⟨rfl, rfl⟩)
  refine bodyPost_ret (results_none rfl _ _ _) rfl ?_
  exact ⟨rfl, hN.stay.from hbl⟩

set_option maxHeartbeats 1600000 in
theorem note_low_other (base fb : Nat) (acc : Bool) (s0 s1 s2 s3 u : Int) (v1 v2 : Value) (xs ys : List Int) (k : Int) (da : Option Addr) (dl dc : Nat) (w : World) (h : NoteAt w base fb acc s0 s1 s2 s3 u v1 v2 xs ys)
    (h0 : 0 ≤ k) (h1 : k < 192) (hd : 2 ≤ dl) (hk : k ≠ 127) :
    Calls Yba.prog 8 #[.pointer (some ⟨fb, 0, none⟩), .int .u8 k, .slice da dl dc] w fun e w' => e = .returned (.tuple #[]) ∧ NoteEnd w w' base fb acc (sw s0 0 k) (sw s1 1 k) (sw s2 2 k) s3 (uw u k)  xs ys := by
  obtain ⟨q, hq⟩ : ∃ q : Nat, k / 64 = (q : Int) := ⟨(k / 64).toNat, by omega⟩
  have hq3 : q < 3 := by omega
  obtain ⟨s, hs⟩ : ∃ s, w.cell? ⟨fb, 1 + q, none⟩ = some (.int .u64 s) := by
    rw [h.flow.cell]
    match q, hq3 with
    | 0, _ => exact ⟨_, rfl⟩
    | 1, _ => exact ⟨_, rfl⟩
    | 2, _ => exact ⟨_, rfl⟩
  have hfz := h.flow.frozen (1 + q)
  have hN := h.bit k q hq hq3 s hs
  have hbl : Below base w ((w.setCell ⟨fb, 1 + q, none⟩ (.int .u64 (orBit s (k % 64)))).drew) := ((Below.refl _ _).setCell h.lo _).drew
  have hu : uw u k = u := by simp [uw, h1]
  rw [hu]
  have HQ : Hid (k / 64 = (q : Int)) := hq
  clear hq
  have t1 : (k == 127) = false := by simp [hk]
  have t2 : (k == 254) = false := by simp; omega
  have hdd : decide ((dl : Int) < 2) = false := decide_eq_false (by omega)
  go_enter Yba.func8, Yba.ntmps8
  go_wp2_with (go_at_call 11; refine (setBit_any fb q k s _ HQ.out h0 (by omega) hs hfz).mono ?_; rintro e w' ⟨rfl, rfl⟩)
  go_end0
  exact ⟨rfl, hN.stay.from hbl⟩

set_option maxHeartbeats 1600000 in
theorem note_127 (base fb : Nat) (acc : Bool) (s0 s1 s2 s3 u : Int) (v1 v2 : Value) (xs ys : List Int) (k : Int) (da : Option Addr) (dl dc : Nat) (w : World) (h : NoteAt w base fb acc s0 s1 s2 s3 u v1 v2 xs ys) (d0 d1 : Int) (hl : xs.length ≤ 1024)
    (h0 : 0 ≤ k) (h1 : k < 192) (hd : 2 ≤ dl) (hk : k = 127) (hB : Bytes2 w base da d0 d1) :
    Calls Yba.prog 8 #[.pointer (some ⟨fb, 0, none⟩), .int .u8 k, .slice da dl dc] w fun e w' => e = .returned (.tuple #[]) ∧ NoteEnd w w' base fb acc (sw s0 0 k) (sw s1 1 k) (sw s2 2 k) s3 (uw u k)  (addL xs (idOf d0 d1)) ys := by
  obtain ⟨q, hq⟩ : ∃ q : Nat, k / 64 = (q : Int) := ⟨(k / 64).toNat, by omega⟩
  have hq3 : q < 3 := by omega
  obtain ⟨s, hs⟩ : ∃ s, w.cell? ⟨fb, 1 + q, none⟩ = some (.int .u64 s) := by
    rw [h.flow.cell]
    match q, hq3 with
    | 0, _ => exact ⟨_, rfl⟩
    | 1, _ => exact ⟨_, rfl⟩
    | 2, _ => exact ⟨_, rfl⟩
  have hfz := h.flow.frozen (1 + q)
  have hN := h.bit k q hq hq3 s hs
  have hbl : Below base w ((w.setCell ⟨fb, 1 + q, none⟩ (.int .u64 (orBit s (k % 64)))).drew) := ((Below.refl _ _).setCell h.lo _).drew
  have hu : uw u k = u := by simp [uw, h1]
  rw [hu]
  have HQ : Hid (k / 64 = (q : Int)) := hq
  clear hq
  have t1 : (k == 127) = true := by simp [hk]
  have hdd : decide ((dl : Int) < 2) = false := decide_eq_false (by omega)
  obtain ⟨b, off, rfl, hb, e0, e1, ⟨x0, x0'⟩, x1, x1'⟩ := hB
  clear hk
  have hbw : b < w.heap.size := World.block_lt_of_cell? _ _ e0
  have f0 := (hbl.cell (p := ⟨b, off, none⟩) hb).trans e0
  have f1 := (hbl.cell (p := ⟨b, off + 1, none⟩) hb).trans e1
  go_enter Yba.func8, Yba.ntmps8
  go_wp2_with (go_at_call 11; refine (setBit_any fb q k s _ HQ.out h0 (by omega) hs hfz).mono ?_; rintro e w' ⟨rfl, rfl⟩)
  generalize (w.setCell ⟨fb, 1 + q, none⟩ (.int .u64 (orBit s (k % 64)))).drew = wn at hN hbl f0 f1 ⊢
  clear hs hfz e0 e1
  have c6 : wn.cell? ⟨fb, 6, none⟩ = some v1 := hN.flow.cell 6
  have f6 : wn.frozen? ⟨fb, 6, none⟩ = false := hN.flow.frozen 6
  have hap := hN.flow.apart hN.o1
  have hsz : base ≤ wn.heap.size := by have := hN.flow.lt; have := hN.lo; omega
  go_region_with (first
    | (go_at_call 13; refine (uint16_any _ _ _ d0 d1 b off _ rfl hd ?_ ?_ ?_ x0 x0' x1 x1').mono ?_; exact World.block_lt_of_cell? _ _ f0; exact f0; exact f1; rintro e w' ⟨rfl, hg1⟩; have c6' := hg1.cell c6 (by simp))
    | (go_at_call 12; refine (appendEx_any base v1 xs (idOf d0 d1) _ ?_ ?_ hl).mono ?_; exact World.ownsRow.kept (by exact hN.o1) hg1 (by cases v1.ownBlock <;> simp); exact Nat.le_trans hsz hg1.size; rintro e w' ⟨v', rfl, ho, hg2⟩; obtain ⟨ao2, cap2, rfl, hro⟩ := Rd.own ho; have c6b := hg2.cell c6' hap.symm; have f6b := (grownBy_frozen hg2 (World.block_lt_of_cell? _ _ c6') hap.symm).trans ((grownBy_frozen hg1 (World.block_lt_of_cell? _ _ c6) (by simp)).trans f6)))
  all_goals (go_end0; exact ⟨rfl, (hN.list1 ho (grown_then (grownBy_undrew hg1) hg2)).from hbl⟩)

set_option maxHeartbeats 1600000 in
theorem note_high_short (base fb : Nat) (acc : Bool) (s0 s1 s2 s3 u : Int) (v1 v2 : Value) (xs ys : List Int) (k : Int) (da : Option Addr) (dl dc : Nat) (w : World) (h : NoteAt w base fb acc s0 s1 s2 s3 u v1 v2 xs ys)
    (h0 : 192 ≤ k) (h1 : k ≤ 255) (hd : dl < 2) :
    Calls Yba.prog 8 #[.pointer (some ⟨fb, 0, none⟩), .int .u8 k, .slice da dl dc] w fun e w' => e = .returned (.tuple #[]) ∧ NoteEnd w w' base fb acc (sw s0 0 k) (sw s1 1 k) (sw s2 2 k) s3 (uw u k) xs ys := by
  have c5 : w.cell? ⟨fb, 5, none⟩ = some (.int .u64 u) := h.flow.cell 5
  have f5 : w.frozen? ⟨fb, 5, none⟩ = false := h.flow.frozen 5
  have hN := h.uns (orBit u (k - 192))
  have hbl : Below base w (w.setCell ⟨fb, 5, none⟩ (.int .u64 (orBit u (k - 192)))) := (Below.refl _ _).setCell h.lo _
  have hu : uw u k = orBit u (k - 192) := by unfold uw; rw [if_neg (by omega)]
  rw [hu, sw_high h0 (by omega), sw_high h0 (by omega), sw_high h0 (by omega)]
  go_enter Yba.func8, Yba.ntmps8
  go_wp2
  refine bodyPost_ret (results_none rfl _ _ _) rfl ?_
  exact ⟨rfl, hN.stay.from hbl⟩

set_option maxHeartbeats 1600000 in
theorem note_high_other (base fb : Nat) (acc : Bool) (s0 s1 s2 s3 u : Int) (v1 v2 : Value) (xs ys : List Int) (k : Int) (da : Option Addr) (dl dc : Nat) (w : World) (h : NoteAt w base fb acc s0 s1 s2 s3 u v1 v2 xs ys)
    (h0 : 192 ≤ k) (h1 : k ≤ 255) (hd : 2 ≤ dl) (hk : k ≠ 254) :
    Calls Yba.prog 8 #[.pointer (some ⟨fb, 0, none⟩), .int .u8 k, .slice da dl dc] w fun e w' => e = .returned (.tuple #[]) ∧ NoteEnd w w' base fb acc (sw s0 0 k) (sw s1 1 k) (sw s2 2 k) s3 (uw u k) xs ys := by
  have c5 : w.cell? ⟨fb, 5, none⟩ = some (.int .u64 u) := h.flow.cell 5
  have f5 : w.frozen? ⟨fb, 5, none⟩ = false := h.flow.frozen 5
  have hN := h.uns (orBit u (k - 192))
  have hbl : Below base w (w.setCell ⟨fb, 5, none⟩ (.int .u64 (orBit u (k - 192)))) := (Below.refl _ _).setCell h.lo _
  have hu : uw u k = orBit u (k - 192) := by unfold uw; rw [if_neg (by omega)]
  rw [hu, sw_high h0 (by omega), sw_high h0 (by omega), sw_high h0 (by omega)]
  have t1 : (k == 127) = false := by simp; omega
  have t2 : (k == 254) = false := by simp [hk]
  have hdd : decide ((dl : Int) < 2) = false := decide_eq_false (by omega)
  go_enter Yba.func8, Yba.ntmps8
  go_wp2
  go_end0
  exact ⟨rfl, hN.stay.from hbl⟩

set_option maxHeartbeats 1600000 in
theorem note_254 (base fb : Nat) (acc : Bool) (s0 s1 s2 s3 u : Int) (v1 v2 : Value) (xs ys : List Int) (k : Int) (da : Option Addr) (dl dc : Nat) (w : World) (h : NoteAt w base fb acc s0 s1 s2 s3 u v1 v2 xs ys) (d0 d1 : Int) (hl : ys.length ≤ 1024)
    (h0 : 192 ≤ k) (h1 : k ≤ 255) (hd : 2 ≤ dl) (hk : k = 254) (hB : Bytes2 w base da d0 d1) :
    Calls Yba.prog 8 #[.pointer (some ⟨fb, 0, none⟩), .int .u8 k, .slice da dl dc] w fun e w' => e = .returned (.tuple #[]) ∧ NoteEnd w w' base fb acc (sw s0 0 k) (sw s1 1 k) (sw s2 2 k) s3 (uw u k) xs (addL ys (idOf d0 d1)) := by
  have c5 : w.cell? ⟨fb, 5, none⟩ = some (.int .u64 u) := h.flow.cell 5
  have f5 : w.frozen? ⟨fb, 5, none⟩ = false := h.flow.frozen 5
  have hN := h.uns (orBit u (k - 192))
  have hbl : Below base w (w.setCell ⟨fb, 5, none⟩ (.int .u64 (orBit u (k - 192)))) := (Below.refl _ _).setCell h.lo _
  have hu : uw u k = orBit u (k - 192) := by unfold uw; rw [if_neg (by omega)]
  rw [hu, sw_high h0 (by omega), sw_high h0 (by omega), sw_high h0 (by omega)]
  have t1 : (k == 127) = false := by simp; omega
  have t2 : (k == 254) = true := by simp [hk]
  have hdd : decide ((dl : Int) < 2) = false := decide_eq_false (by omega)
  obtain ⟨b, off, rfl, hb, e0, e1, ⟨x0, x0'⟩, x1, x1'⟩ := hB
  clear hk
  have hbw : b < w.heap.size := World.block_lt_of_cell? _ _ e0
  have f0 := (hbl.cell (p := ⟨b, off, none⟩) hb).trans e0
  have f1 := (hbl.cell (p := ⟨b, off + 1, none⟩) hb).trans e1
  go_enter Yba.func8, Yba.ntmps8
  go_wp2_with fail
  rw [show bits BinOp.or IntKind.u64 u (IntKind.u64.wrap (2 ^ (k - 192).toNat)) = orBit u (k - 192) from rfl]
  generalize w.setCell ⟨fb, 5, none⟩ (.int .u64 (orBit u (k - 192))) = wn at hN hbl f0 f1 ⊢
  clear e0 e1 c5 f5 hu
  have c7 : wn.cell? ⟨fb, 7, none⟩ = some v2 := hN.flow.cell 7
  have f7 : wn.frozen? ⟨fb, 7, none⟩ = false := hN.flow.frozen 7
  have hap := hN.flow.apart hN.o2
  have hsz : base ≤ wn.heap.size := by have := hN.flow.lt; have := hN.lo; omega
  go_region_with (first
    | (go_at_call 13; refine (uint16_any _ _ _ d0 d1 b off _ rfl hd ?_ ?_ ?_ x0 x0' x1 x1').mono ?_; exact World.block_lt_of_cell? _ _ f0; exact f0; exact f1; rintro e w' ⟨rfl, hg1⟩; have c7' := hg1.cell c7 (by simp))
    | (go_at_call 12; refine (appendEx_any base v2 ys (idOf d0 d1) _ ?_ ?_ hl).mono ?_; exact World.ownsRow.kept (by exact hN.o2) hg1 (by cases v2.ownBlock <;> simp); exact Nat.le_trans hsz hg1.size; rintro e w' ⟨v', rfl, ho, hg2⟩; obtain ⟨ao2, cap2, rfl, hro⟩ := Rd.own ho; have c7b := hg2.cell c7' hap.symm; have f7b := (grownBy_frozen hg2 (World.block_lt_of_cell? _ _ c7') hap.symm).trans ((grownBy_frozen hg1 (World.block_lt_of_cell? _ _ c7) (by simp)).trans f7)))
  all_goals (go_end0; exact ⟨rfl, (hN.list2 ho (grown_then (grownBy_undrew hg1) hg2)).from hbl⟩)

/-- The lists behind note. -/
def l1 (xs : List Int) (k : Int) (dl : Nat) (x : Int) : List Int := if 2 ≤ dl ∧ k = 127 then addL xs x else xs
def l2 (ys : List Int) (k : Int) (dl : Nat) (x : Int) : List Int := if 2 ≤ dl ∧ k = 254 then addL ys x else ys

theorem note_any (base fb : Nat) (acc : Bool) (s0 s1 s2 s3 u : Int) (v1 v2 : Value) (xs ys : List Int) (k : Int) (da : Option Addr) (dl dc : Nat) (w : World) (h : NoteAt w base fb acc s0 s1 s2 s3 u v1 v2 xs ys)
    (d0 d1 : Int) (hlx : xs.length ≤ 1024) (hly : ys.length ≤ 1024) (h0 : 0 ≤ k) (h1 : k ≤ 255) (hB : 2 ≤ dl → Bytes2 w base da d0 d1) :
    Calls Yba.prog 8 #[.pointer (some ⟨fb, 0, none⟩), .int .u8 k, .slice da dl dc] w fun e w' => e = .returned (.tuple #[]) ∧
      NoteEnd w w' base fb acc (sw s0 0 k) (sw s1 1 k) (sw s2 2 k) s3 (uw u k) (l1 xs k dl (idOf d0 d1)) (l2 ys k dl (idOf d0 d1)) := by
  by_cases hd : 2 ≤ dl
  · by_cases hlo : k < 192
    · have e2 : l2 ys k dl (idOf d0 d1) = ys := by unfold l2; rw [if_neg (by omega)]
      rw [e2]
      by_cases hk : k = 127
      · have e1 : l1 xs k dl (idOf d0 d1) = addL xs (idOf d0 d1) := by unfold l1; rw [if_pos ⟨hd, hk⟩]
        rw [e1]
        exact note_127 base fb acc s0 s1 s2 s3 u v1 v2 xs ys k da dl dc w h d0 d1 hlx h0 hlo hd hk (hB hd)
      · have e1 : l1 xs k dl (idOf d0 d1) = xs := by unfold l1; rw [if_neg (by omega)]
        rw [e1]
        exact note_low_other base fb acc s0 s1 s2 s3 u v1 v2 xs ys k da dl dc w h h0 hlo hd hk
    · have e1 : l1 xs k dl (idOf d0 d1) = xs := by unfold l1; rw [if_neg (by omega)]
      rw [e1]
      by_cases hk : k = 254
      · have e2 : l2 ys k dl (idOf d0 d1) = addL ys (idOf d0 d1) := by unfold l2; rw [if_pos ⟨hd, hk⟩]
        rw [e2]
        exact note_254 base fb acc s0 s1 s2 s3 u v1 v2 xs ys k da dl dc w h d0 d1 hly (by omega) h1 hd hk (hB hd)
      · have e2 : l2 ys k dl (idOf d0 d1) = ys := by unfold l2; rw [if_neg (by omega)]
        rw [e2]
        exact note_high_other base fb acc s0 s1 s2 s3 u v1 v2 xs ys k da dl dc w h (by omega) h1 hd hk
  · have e1 : l1 xs k dl (idOf d0 d1) = xs := by unfold l1; rw [if_neg (by omega)]
    have e2 : l2 ys k dl (idOf d0 d1) = ys := by unfold l2; rw [if_neg (by omega)]
    rw [e1, e2]
    by_cases hlo : k < 192
    · exact note_low_short base fb acc s0 s1 s2 s3 u v1 v2 xs ys k da dl dc w h h0 hlo (by omega)
    · exact note_high_short base fb acc s0 s1 s2 s3 u v1 v2 xs ys k da dl dc w h (by omega) h1 (by omega)

end Go.Proofs.Ybulkbelu
