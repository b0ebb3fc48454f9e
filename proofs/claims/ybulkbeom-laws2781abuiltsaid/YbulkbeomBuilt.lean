/-
  LawS2781ABuilt, WALKED: it returns true. The shell's frame is the given one.
-/
import Derived.Test.YbulkbeomOrder
import Derived.OwnWalk
namespace Go.Proofs.Ybulkbeom
open Go.RowKit

/-- 'make([]T, n, m)', T of one cell: n zeros are owned, there is room for m. -/
theorem wpList_make_lc {P : Program} (w : World) {ops : Array Oper} {rest : List Oper} {o : Oper} {a : Act} {Q : Exit → Act → World → Prop}
    (hg : o.guard = none) (l c : Operand) (t : TypeId) (hop : o.op = Op.makeSlice t l c)
    (base : Nat) (e : TypeId) (i : TypeInfo) (z : Value) (h1 : P.underlying t = some (.slice e)) (h2 : P.info? e = some i) (h3 : i.zero = some z) (h4 : i.size = 1) (hzc : z.cells = #[z])
    (kl kc : IntKind) (L C : Int) (n m : Nat) (hl : a.eval l = .int kl L) (hc : a.eval c = .int kc C) (hL : L = (n : Int)) (hC : C = (m : Int)) (hnm : n ≤ m) (b2 : i.bytes * m ≤ 281474976710656) (b3 : m ≤ maxLen) (b4 : base ≤ w.heap.size)
    (hK : ∀ w', w'.ownsRow base e 1 (.slice (some ⟨w.heap.size, 0, none⟩) n m) n (List.replicate n z) → w.grownBy w' none → wpList P ops Q rest (a.put o.dst (.slice (some ⟨w.heap.size, 0, none⟩) n m)) w') :
    wpList P ops Q (o :: rest) a w := by
  refine wpList_plain hg fun K hK' => ?_
  subst hL
  subst hC
  have h63' : (m : Int) ≤ 9223372036854775807 := by
    have h := b3
    simp [maxLen] at h
    omega
  have hb' : (i.bytes : Int) * (m : Int) ≤ 281474976710656 := by
    have h : ((i.bytes * m : Nat) : Int) ≤ 281474976710656 := by omega
    rwa [Int.natCast_mul] at h
  have hrun := run_make (P := P) w t e i z h1 h2 h3 kl kc n m (by omega) (by omega) hb' h63'
  simp only [Int.toNat_natCast, h4, hzc, Nat.mul_one] at hrun
  have r1 : (w.alloc (.cells (madeCells #[z] m) e)).ownsRow base e 1 (.slice (some ⟨w.heap.size, 0, none⟩) n m) n (List.replicate n z) := by
    refine ⟨by simp, .inr ⟨w.heap.size, m, madeCells #[z] m, rfl, b4, heap_alloc_new w _, hnm, b3, by rw [size_madeCells]; omega, ?_⟩⟩
    rw [toList_madeCells_one, Nat.mul_one, List.take_replicate, Nat.min_eq_left hnm]
  unfold Oper.wp
  simp [execOp, hop, hl, hc, hrun, Result.andThen]
  exact hK' _ _ (hK _ r1 (World.grownBy_alloc w _ none))

theorem info5 : (Yba.prog.info? 5).map (fun i => (i.zero, i.size, i.bytes)) = some (some (.int .u8 0), 1, 1) := by kernel_rfl

/-- The tail's cells. -/
structure Tail (w : World) (a : Option Addr) (n cap : Nat) (zs : List Int) : Prop where
  nil : a = none → n = 0 ∧ cap = 0
  len : zs.length = n
  cells : ∀ ad, a = some ad → ∀ j, j < n → w.cell? (ad.add j) = some (.int .u8 (zs.getD j 0))

theorem four {w w1 : World} {B g m : Nat} (hown : w1.ownsRow B 5 1 (.slice (some ⟨g, 0, none⟩) 4 m) 4 [.int .u8 0, .int .u8 0, .int .u8 0, .int .u8 0]) (x0 x1 x2 x3 : Int) (hb : Below w.heap.size w w1) (hg : w.heap.size ≤ g) :
    ((((w1.setCell ⟨g, 0, none⟩ (.int .u8 x0)).setCell ⟨g, 1, none⟩ (.int .u8 x1)).setCell ⟨g, 2, none⟩ (.int .u8 x2)).setCell ⟨g, 3, none⟩ (.int .u8 x3)).ownsRow B 5 1 (.slice (some ⟨g, 0, none⟩) 4 m) 4 [.int .u8 x0, .int .u8 x1, .int .u8 x2, .int .u8 x3] ∧
    Below w.heap.size w ((((w1.setCell ⟨g, 0, none⟩ (.int .u8 x0)).setCell ⟨g, 1, none⟩ (.int .u8 x1)).setCell ⟨g, 2, none⟩ (.int .u8 x2)).setCell ⟨g, 3, none⟩ (.int .u8 x3)) :=
  ⟨((((hown.stored 0 (.int .u8 x0)).1.stored 1 (.int .u8 x1)).1.stored 2 (.int .u8 x2)).1.stored 3 (.int .u8 x3)).1, (((hb.setCell hg _).setCell hg _).setCell hg _).setCell hg _⟩

theorem tail_cells {w W : World} {a : Option Addr} {n cap : Nat} {zs : List Int} (h : Tail w a n cap zs) (hb : Below w.heap.size w W) : ∀ ad, a = some ad → ∀ j u, (zs.map (Value.int .u8))[j]? = some u → W.cell? (ad.add j) = some u := by
  intro ad e j u hu
  have hj : j < zs.length := by
    rcases Nat.lt_or_ge j zs.length with h' | h'
    · exact h'
    · simp [List.getElem?_eq_none h'] at hu
  have hc := h.cells ad e j (by have := h.len; omega)
  rw [hb.cell (World.block_lt_of_cell? _ _ hc), hc]
  simp [List.getElem?_eq_getElem hj] at hu
  simp [List.getD, List.getElem?_eq_getElem hj, hu]

theorem head_of {w : World} {B g len cap : Nat} {x0 x1 x2 x3 : Int} {news : List Value} (ho : w.ownsRow B 5 1 (.slice (some ⟨g, 0, none⟩) len cap) len ([.int .u8 x0, .int .u8 x1, .int .u8 x2, .int .u8 x3] ++ news)) (hl : 4 ≤ len)
    (r0 : 0 ≤ x0 ∧ x0 ≤ 255) (r1 : 0 ≤ x1 ∧ x1 ≤ 255) (r2 : 0 ≤ x2 ∧ x2 ≤ 255) (r3 : 0 ≤ x3 ∧ x3 ≤ 255) : Head w g len x0 x1 x2 x3 :=
  ⟨hl, ho.cellAt 0 (by omega), ho.cellAt 1 (by omega), ho.cellAt 2 (by omega), ho.cellAt 3 (by omega), r0, r1, r2, r3⟩

theorem eqBE (w : World) : (binOp .eql 24 (.iface 33 (.agg #[])) (.iface 33 (.agg #[]))).run Yba.prog w = .ok (.bool true) w := by kernel_rfl
theorem eqLE (w : World) : (binOp .eql 24 (.iface 32 (.agg #[])) (.iface 32 (.agg #[]))).run Yba.prog w = .ok (.bool true) w := by kernel_rfl

set_option maxRecDepth 100000 in
set_option maxHeartbeats 1600000 in
theorem built_00 (sel : Int) (a : Option Addr) (n cap : Nat) (zs : List Int) (w : World) (h : Tail w a n cap zs) (hn : n ≤ 1024) (s0 : 0 ≤ sel) (s1 : sel ≤ 255) (q1 : (sel % 2 == 1) = false) (q2 : (sel / 2 % 2 == 1) = false) :
    Calls Yba.prog 4 #[.int .u8 sel, .slice a n cap] w fun e w' => e = .returned (.bool true) ∧ Below w.heap.size w w' := by
  obtain ⟨i0, hi, hz0, hz1, hz2⟩ := info_parts info5
  have hw : decide ((1024 : Int) < (n : Int)) = false := decide_eq_false (by omega)
  have hwn : (n : Int) ≤ 1024 := by omega
  go_enter Yba.func4, Yba.ntmps4
  go_wp2_with (at_make; refine wpList_make_lc _ rfl (.const (.int .i64 4)) (.tmp 22) 22 rfl w.heap.size 5 i0 (.int .u8 0) Yba.underlying22 hi hz0 hz1 rfl .i64 .i64 _ _ 4 (4 + n) rfl rfl (by omega) (by omega) (by omega) ?b2 ?b3 (Nat.le_refl _) ?_)
  case b2 => rw [hz2]; omega
  case b3 => unfold maxLen; omega
  intro w1 hown hg1
  obtain ⟨ho4, hb4⟩ := four hown 212 195 178 161 (grownBy_below hg1) (Nat.le_refl _)
  have c0 : w1.cell? ⟨w.heap.size, 0, none⟩ = some (.int .u8 0) := hown.cellAt 0 (by omega)
  have c1 : w1.cell? ⟨w.heap.size, 1, none⟩ = some (.int .u8 0) := hown.cellAt 1 (by omega)
  have c2 : w1.cell? ⟨w.heap.size, 2, none⟩ = some (.int .u8 0) := hown.cellAt 2 (by omega)
  have c3 : w1.cell? ⟨w.heap.size, 3, none⟩ = some (.int .u8 0) := hown.cellAt 3 (by omega)
  have f0 := hown.frozenAt 0
  have f1 := hown.frozenAt 1
  have f2 := hown.frozenAt 2
  have f3 := hown.frozenAt 3
  clear hown hg1
  go_wp2_with (at_builtin; refine wpList_append_fits_any _ rfl (.tmp 63) (.tmp 64) 22 rfl w.heap.size 5 i0 1 Yba.underlying22 hi hz1 w.heap.size 4 (4 + n) _ rfl ho4 a n cap (zs.map (Value.int .u8)) rfl (by simp [h.len]) h.nil (tail_cells h hb4) (ints_oneCell _ _) (Nat.le_refl _) ?_)
  intro w2 ho5 hg2
  have hb5 : Below w.heap.size w w2 := hb4.grown hg2 (hb4.size) (fun k e => by cases e; exact Nat.le_refl _)
  clear ho4 hb4 hg2 c0 c1 c2 c3 f0 f1 f2 f3
  have hH := head_of ho5 (by omega) (by omega) (by omega) (by omega) (by omega)
  clear ho5
  have eB := eqBE
  have eL := eqLE
  go_wp2_with fail
  refine (order_leA _ _ _ _ _ _ _ _ hH (by decide +kernel)).mono ?_
  rintro e w3 ⟨rfl, hb6⟩
  go_wp2_with fail
  go_ret
  exact ⟨rfl, hb5.trans (hb6.mono hb5.size)⟩

set_option maxRecDepth 100000 in
set_option maxHeartbeats 1600000 in
theorem built_10 (sel : Int) (a : Option Addr) (n cap : Nat) (zs : List Int) (w : World) (h : Tail w a n cap zs) (hn : n ≤ 1024) (s0 : 0 ≤ sel) (s1 : sel ≤ 255) (q1 : (sel % 2 == 1) = true) (q2 : (sel / 2 % 2 == 1) = false) :
    Calls Yba.prog 4 #[.int .u8 sel, .slice a n cap] w fun e w' => e = .returned (.bool true) ∧ Below w.heap.size w w' := by
  obtain ⟨i0, hi, hz0, hz1, hz2⟩ := info_parts info5
  have hw : decide ((1024 : Int) < (n : Int)) = false := decide_eq_false (by omega)
  have hwn : (n : Int) ≤ 1024 := by omega
  go_enter Yba.func4, Yba.ntmps4
  go_wp2_with (at_make; refine wpList_make_lc _ rfl (.const (.int .i64 4)) (.tmp 22) 22 rfl w.heap.size 5 i0 (.int .u8 0) Yba.underlying22 hi hz0 hz1 rfl .i64 .i64 _ _ 4 (4 + n) rfl rfl (by omega) (by omega) (by omega) ?b2 ?b3 (Nat.le_refl _) ?_)
  case b2 => rw [hz2]; omega
  case b3 => unfold maxLen; omega
  intro w1 hown hg1
  obtain ⟨ho4, hb4⟩ := four hown 77 60 178 161 (grownBy_below hg1) (Nat.le_refl _)
  have c0 : w1.cell? ⟨w.heap.size, 0, none⟩ = some (.int .u8 0) := hown.cellAt 0 (by omega)
  have c1 : w1.cell? ⟨w.heap.size, 1, none⟩ = some (.int .u8 0) := hown.cellAt 1 (by omega)
  have c2 : w1.cell? ⟨w.heap.size, 2, none⟩ = some (.int .u8 0) := hown.cellAt 2 (by omega)
  have c3 : w1.cell? ⟨w.heap.size, 3, none⟩ = some (.int .u8 0) := hown.cellAt 3 (by omega)
  have f0 := hown.frozenAt 0
  have f1 := hown.frozenAt 1
  have f2 := hown.frozenAt 2
  have f3 := hown.frozenAt 3
  clear hown hg1
  go_wp2_with (at_builtin; refine wpList_append_fits_any _ rfl (.tmp 63) (.tmp 64) 22 rfl w.heap.size 5 i0 1 Yba.underlying22 hi hz1 w.heap.size 4 (4 + n) _ rfl ho4 a n cap (zs.map (Value.int .u8)) rfl (by simp [h.len]) h.nil (tail_cells h hb4) (ints_oneCell _ _) (Nat.le_refl _) ?_)
  intro w2 ho5 hg2
  have hb5 : Below w.heap.size w w2 := hb4.grown hg2 (hb4.size) (fun k e => by cases e; exact Nat.le_refl _)
  clear ho4 hb4 hg2 c0 c1 c2 c3 f0 f1 f2 f3
  have hH := head_of ho5 (by omega) (by omega) (by omega) (by omega) (by omega)
  clear ho5
  have eB := eqBE
  have eL := eqLE
  go_wp2_with fail
  refine (order_leB _ _ _ _ _ _ _ _ hH (by decide +kernel) (by decide +kernel)).mono ?_
  rintro e w3 ⟨rfl, hb6⟩
  go_wp2_with fail
  go_ret
  exact ⟨rfl, hb5.trans (hb6.mono hb5.size)⟩

set_option maxRecDepth 100000 in
set_option maxHeartbeats 1600000 in
theorem built_01 (sel : Int) (a : Option Addr) (n cap : Nat) (zs : List Int) (w : World) (h : Tail w a n cap zs) (hn : n ≤ 1024) (s0 : 0 ≤ sel) (s1 : sel ≤ 255) (q1 : (sel % 2 == 1) = false) (q2 : (sel / 2 % 2 == 1) = true) :
    Calls Yba.prog 4 #[.int .u8 sel, .slice a n cap] w fun e w' => e = .returned (.bool true) ∧ Below w.heap.size w w' := by
  obtain ⟨i0, hi, hz0, hz1, hz2⟩ := info_parts info5
  have hw : decide ((1024 : Int) < (n : Int)) = false := decide_eq_false (by omega)
  have hwn : (n : Int) ≤ 1024 := by omega
  go_enter Yba.func4, Yba.ntmps4
  go_wp2_with (at_make; refine wpList_make_lc _ rfl (.const (.int .i64 4)) (.tmp 22) 22 rfl w.heap.size 5 i0 (.int .u8 0) Yba.underlying22 hi hz0 hz1 rfl .i64 .i64 _ _ 4 (4 + n) rfl rfl (by omega) (by omega) (by omega) ?b2 ?b3 (Nat.le_refl _) ?_)
  case b2 => rw [hz2]; omega
  case b3 => unfold maxLen; omega
  intro w1 hown hg1
  obtain ⟨ho4, hb4⟩ := four hown 161 178 195 212 (grownBy_below hg1) (Nat.le_refl _)
  have c0 : w1.cell? ⟨w.heap.size, 0, none⟩ = some (.int .u8 0) := hown.cellAt 0 (by omega)
  have c1 : w1.cell? ⟨w.heap.size, 1, none⟩ = some (.int .u8 0) := hown.cellAt 1 (by omega)
  have c2 : w1.cell? ⟨w.heap.size, 2, none⟩ = some (.int .u8 0) := hown.cellAt 2 (by omega)
  have c3 : w1.cell? ⟨w.heap.size, 3, none⟩ = some (.int .u8 0) := hown.cellAt 3 (by omega)
  have f0 := hown.frozenAt 0
  have f1 := hown.frozenAt 1
  have f2 := hown.frozenAt 2
  have f3 := hown.frozenAt 3
  clear hown hg1
  go_wp2_with (at_builtin; refine wpList_append_fits_any _ rfl (.tmp 63) (.tmp 64) 22 rfl w.heap.size 5 i0 1 Yba.underlying22 hi hz1 w.heap.size 4 (4 + n) _ rfl ho4 a n cap (zs.map (Value.int .u8)) rfl (by simp [h.len]) h.nil (tail_cells h hb4) (ints_oneCell _ _) (Nat.le_refl _) ?_)
  intro w2 ho5 hg2
  have hb5 : Below w.heap.size w w2 := hb4.grown hg2 (hb4.size) (fun k e => by cases e; exact Nat.le_refl _)
  clear ho4 hb4 hg2 c0 c1 c2 c3 f0 f1 f2 f3
  have hH := head_of ho5 (by omega) (by omega) (by omega) (by omega) (by omega)
  clear ho5
  have eB := eqBE
  have eL := eqLE
  go_wp2_with fail
  refine (order_beA _ _ _ _ _ _ _ _ hH (by decide +kernel) (by decide +kernel) (by decide +kernel)).mono ?_
  rintro e w3 ⟨rfl, hb6⟩
  go_wp2_with fail
  go_ret
  exact ⟨rfl, hb5.trans (hb6.mono hb5.size)⟩

set_option maxRecDepth 100000 in
set_option maxHeartbeats 1600000 in
theorem built_11 (sel : Int) (a : Option Addr) (n cap : Nat) (zs : List Int) (w : World) (h : Tail w a n cap zs) (hn : n ≤ 1024) (s0 : 0 ≤ sel) (s1 : sel ≤ 255) (q1 : (sel % 2 == 1) = true) (q2 : (sel / 2 % 2 == 1) = true) :
    Calls Yba.prog 4 #[.int .u8 sel, .slice a n cap] w fun e w' => e = .returned (.bool true) ∧ Below w.heap.size w w' := by
  obtain ⟨i0, hi, hz0, hz1, hz2⟩ := info_parts info5
  have hw : decide ((1024 : Int) < (n : Int)) = false := decide_eq_false (by omega)
  have hwn : (n : Int) ≤ 1024 := by omega
  go_enter Yba.func4, Yba.ntmps4
  go_wp2_with (at_make; refine wpList_make_lc _ rfl (.const (.int .i64 4)) (.tmp 22) 22 rfl w.heap.size 5 i0 (.int .u8 0) Yba.underlying22 hi hz0 hz1 rfl .i64 .i64 _ _ 4 (4 + n) rfl rfl (by omega) (by omega) (by omega) ?b2 ?b3 (Nat.le_refl _) ?_)
  case b2 => rw [hz2]; omega
  case b3 => unfold maxLen; omega
  intro w1 hown hg1
  obtain ⟨ho4, hb4⟩ := four hown 161 178 60 77 (grownBy_below hg1) (Nat.le_refl _)
  have c0 : w1.cell? ⟨w.heap.size, 0, none⟩ = some (.int .u8 0) := hown.cellAt 0 (by omega)
  have c1 : w1.cell? ⟨w.heap.size, 1, none⟩ = some (.int .u8 0) := hown.cellAt 1 (by omega)
  have c2 : w1.cell? ⟨w.heap.size, 2, none⟩ = some (.int .u8 0) := hown.cellAt 2 (by omega)
  have c3 : w1.cell? ⟨w.heap.size, 3, none⟩ = some (.int .u8 0) := hown.cellAt 3 (by omega)
  have f0 := hown.frozenAt 0
  have f1 := hown.frozenAt 1
  have f2 := hown.frozenAt 2
  have f3 := hown.frozenAt 3
  clear hown hg1
  go_wp2_with (at_builtin; refine wpList_append_fits_any _ rfl (.tmp 63) (.tmp 64) 22 rfl w.heap.size 5 i0 1 Yba.underlying22 hi hz1 w.heap.size 4 (4 + n) _ rfl ho4 a n cap (zs.map (Value.int .u8)) rfl (by simp [h.len]) h.nil (tail_cells h hb4) (ints_oneCell _ _) (Nat.le_refl _) ?_)
  intro w2 ho5 hg2
  have hb5 : Below w.heap.size w w2 := hb4.grown hg2 (hb4.size) (fun k e => by cases e; exact Nat.le_refl _)
  clear ho4 hb4 hg2 c0 c1 c2 c3 f0 f1 f2 f3
  have hH := head_of ho5 (by omega) (by omega) (by omega) (by omega) (by omega)
  clear ho5
  have eB := eqBE
  have eL := eqLE
  go_wp2_with fail
  refine (order_beB _ _ _ _ _ _ _ _ hH (by decide +kernel) (by decide +kernel) (by decide +kernel) (by decide +kernel)).mono ?_
  rintro e w3 ⟨rfl, hb6⟩
  go_wp2_with fail
  go_ret
  exact ⟨rfl, hb5.trans (hb6.mono hb5.size)⟩

theorem built_wide (sel : Int) (a : Option Addr) (n cap : Nat) (w : World) (hn : 1024 < n) :
    Calls Yba.prog 4 #[.int .u8 sel, .slice a n cap] w fun e w' => e = .returned (.bool true) ∧ Below w.heap.size w w' := by
  have hw : decide ((1024 : Int) < (n : Int)) = true := decide_eq_true (by omega)
  go_enter Yba.func4, Yba.ntmps4
  go_wp2
  go_ret
  exact ⟨rfl, Below.refl _ _⟩

theorem built_all (sel : Int) (a : Option Addr) (n cap : Nat) (zs : List Int) (w : World) (h : Tail w a n cap zs) (s0 : 0 ≤ sel) (s1 : sel ≤ 255) :
    Calls Yba.prog 4 #[.int .u8 sel, .slice a n cap] w fun e w' => e = .returned (.bool true) ∧ Below w.heap.size w w' := by
  by_cases hn : n ≤ 1024
  · cases q1 : (sel % 2 == 1) <;> cases q2 : (sel / 2 % 2 == 1)
    · exact built_00 sel a n cap zs w h hn s0 s1 q1 q2
    · exact built_01 sel a n cap zs w h hn s0 s1 q1 q2
    · exact built_10 sel a n cap zs w h hn s0 s1 q1 q2
    · exact built_11 sel a n cap zs w h hn s0 s1 q1 q2
  · exact built_wide sel a n cap w (by omega)

end Go.Proofs.Ybulkbeom
