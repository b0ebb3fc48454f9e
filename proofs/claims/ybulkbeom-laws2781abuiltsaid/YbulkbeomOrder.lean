/-
  (littleEndian).Uint32, (bigEndian).Uint32 and byteOrder BY THEIR CONTRACTS, at a head whose first four bytes are known numbers.
-/
import Derived.Test.YbulkbeomChecked
import Derived.WalkKit
import Derived.WalkSpells
import Derived.Deep.QuietTactic
import Derived.BigQuiet
import Derived.Below
namespace Go.Proofs.Ybulkbeom
open Go.RowKit

/-- A head whose first four bytes are known. -/
structure Head (w : World) (b : Nat) (len : Nat) (x0 x1 x2 x3 : Int) : Prop where
  len : 4 ≤ len
  c0 : w.cell? ⟨b, 0, none⟩ = some (.int .u8 x0)
  c1 : w.cell? ⟨b, 1, none⟩ = some (.int .u8 x1)
  c2 : w.cell? ⟨b, 2, none⟩ = some (.int .u8 x2)
  c3 : w.cell? ⟨b, 3, none⟩ = some (.int .u8 x3)
  r0 : 0 ≤ x0 ∧ x0 ≤ 255
  r1 : 0 ≤ x1 ∧ x1 ≤ 255
  r2 : 0 ≤ x2 ∧ x2 ≤ 255
  r3 : 0 ≤ x3 ∧ x3 ≤ 255

def rd32 (x0 x1 x2 x3 : Int) : Int := bits BinOp.or IntKind.u32 (bits BinOp.or IntKind.u32 (bits BinOp.or IntKind.u32 x0 (x1 * 256)) (x2 * 65536)) (x3 * 16777216)

set_option maxHeartbeats 1600000 in
theorem le32 (b len cap : Nat) (x0 x1 x2 x3 : Int) (w : World) (h : Head w b len x0 x1 x2 x3) :
    Calls Yba.prog 39 #[.agg #[], .slice (some ⟨b, 0, none⟩) len cap] w fun e w' => e = .returned (.int .u32 (rd32 x0 x1 x2 x3)) ∧ w.grownBy w' none := by
  obtain ⟨hl, c0, c1, c2, c3, ⟨a0, a0'⟩, ⟨a1, a1'⟩, ⟨a2, a2'⟩, a3, a3'⟩ := h
  have l0 : (0 : Int) < (len : Int) := by omega
  have l1 : (1 : Int) < (len : Int) := by omega
  have l2 : (2 : Int) < (len : Int) := by omega
  have l3 : (3 : Int) < (len : Int) := by omega
  have hb : b < w.heap.size := World.block_lt_of_cell? _ _ c0
  go_enter Yba.func39, Yba.ntmps39
  go_wp2
  go_quiet (fail)
  go_wp2
  go_ret
  exact ⟨rfl, ⟨rfl, rfl, rfl, by simp, fun k hk _ => Below.heap_alloc _ _ _ hk⟩⟩

set_option maxHeartbeats 1600000 in
theorem be32 (b len cap : Nat) (x0 x1 x2 x3 : Int) (w : World) (h : Head w b len x0 x1 x2 x3) :
    Calls Yba.prog 47 #[.agg #[], .slice (some ⟨b, 0, none⟩) len cap] w fun e w' => e = .returned (.int .u32 (rd32 x3 x2 x1 x0)) ∧ w.grownBy w' none := by
  obtain ⟨hl, c0, c1, c2, c3, ⟨a0, a0'⟩, ⟨a1, a1'⟩, ⟨a2, a2'⟩, a3, a3'⟩ := h
  have l0 : (0 : Int) < (len : Int) := by omega
  have l1 : (1 : Int) < (len : Int) := by omega
  have l2 : (2 : Int) < (len : Int) := by omega
  have l3 : (3 : Int) < (len : Int) := by omega
  have hb : b < w.heap.size := World.block_lt_of_cell? _ _ c0
  go_enter Yba.func47, Yba.ntmps47
  go_wp2
  go_quiet (fail)
  go_wp2
  go_ret
  exact ⟨rfl, ⟨rfl, rfl, rfl, by simp, fun k hk _ => Below.heap_alloc _ _ _ hk⟩⟩

theorem Head.below {w w' : World} {b len : Nat} {x0 x1 x2 x3 : Int} (h : Head w b len x0 x1 x2 x3) (hb : Below w.heap.size w w') : Head w' b len x0 x1 x2 x3 :=
  ⟨h.len, (hb.cell (World.block_lt_of_cell? _ _ h.c0)).trans h.c0, (hb.cell (World.block_lt_of_cell? _ _ h.c1)).trans h.c1, (hb.cell (World.block_lt_of_cell? _ _ h.c2)).trans h.c2, (hb.cell (World.block_lt_of_cell? _ _ h.c3)).trans h.c3, h.r0, h.r1, h.r2, h.r3⟩

theorem methodLE (v : Value) (w : World) : (Go.method 193 32 v "Uint32").run Yba.prog w = .ok (39, v) w := by kernel_rfl
theorem methodBE (v : Value) (w : World) : (Go.method 193 33 v "Uint32").run Yba.prog w = .ok (47, v) w := by kernel_rfl

theorem grownBy_below {w w' : World} (h : w.grownBy w' none) : Below w.heap.size w w' := ⟨h.os, h.tape, h.output, h.size, fun k hk => h.block k hk (by simp)⟩

set_option maxHeartbeats 1600000 in
theorem order_leA (b len cap : Nat) (x0 x1 x2 x3 : Int) (w : World) (h : Head w b len x0 x1 x2 x3) (m1 : (rd32 x0 x1 x2 x3 == 2712847316) = true) :
    Calls Yba.prog 7 #[.slice (some ⟨b, 0, none⟩) len cap] w fun e w' => e = .returned (.tuple #[.iface 32 (.agg #[]), .bool true]) ∧ Below w.heap.size w w' := by
  have hl : (4 : Int) ≤ (len : Int) := by have := h.len; omega
  have mL := methodLE
  go_enter Yba.func7, Yba.ntmps7
  go_wp2_with fail
  refine wp_loop_rounds 1 ?_
  rw [rounds_succ]
  go_wp2_with fail
  refine (le32 b len cap x0 x1 x2 x3 _ (h.below ((Below.refl _ _).alloc (Nat.le_refl _) _))).mono ?_
  rintro e w1 ⟨rfl, g1⟩
  have hb1 : Below w.heap.size w w1 := ((Below.refl _ _).alloc (Nat.le_refl _) _).trans ((grownBy_below g1).mono (by simp))
  clear g1
  go_wp2_with fail
  go_ret2
  exact ⟨rfl, hb1⟩

set_option maxHeartbeats 1600000 in
theorem order_leB (b len cap : Nat) (x0 x1 x2 x3 : Int) (w : World) (h : Head w b len x0 x1 x2 x3) (m1 : (rd32 x0 x1 x2 x3 == 2712847316) = false) (m2 : (rd32 x0 x1 x2 x3 == 2712812621) = true) :
    Calls Yba.prog 7 #[.slice (some ⟨b, 0, none⟩) len cap] w fun e w' => e = .returned (.tuple #[.iface 32 (.agg #[]), .bool true]) ∧ Below w.heap.size w w' := by
  have hl : (4 : Int) ≤ (len : Int) := by have := h.len; omega
  have mL := methodLE
  go_enter Yba.func7, Yba.ntmps7
  go_wp2_with fail
  refine wp_loop_rounds 1 ?_
  rw [rounds_succ]
  go_wp2_with fail
  refine (le32 b len cap x0 x1 x2 x3 _ (h.below ((Below.refl _ _).alloc (Nat.le_refl _) _))).mono ?_
  rintro e w1 ⟨rfl, g1⟩
  have hb1 : Below w.heap.size w w1 := ((Below.refl _ _).alloc (Nat.le_refl _) _).trans ((grownBy_below g1).mono (by simp))
  clear g1
  go_wp2_with fail
  go_ret2
  exact ⟨rfl, hb1⟩

set_option maxHeartbeats 1600000 in
theorem order_beA (b len cap : Nat) (x0 x1 x2 x3 : Int) (w : World) (h : Head w b len x0 x1 x2 x3) (n1 : (rd32 x0 x1 x2 x3 == 2712847316) = false) (n2 : (rd32 x0 x1 x2 x3 == 2712812621) = false) (m1 : (rd32 x3 x2 x1 x0 == 2712847316) = true) :
    Calls Yba.prog 7 #[.slice (some ⟨b, 0, none⟩) len cap] w fun e w' => e = .returned (.tuple #[.iface 33 (.agg #[]), .bool true]) ∧ Below w.heap.size w w' := by
  have hl : (4 : Int) ≤ (len : Int) := by have := h.len; omega
  have mL := methodLE
  have mB := methodBE
  go_enter Yba.func7, Yba.ntmps7
  go_wp2_with fail
  refine wp_loop_rounds 2 ?_
  rw [rounds_succ]
  go_wp2_with fail
  refine (le32 b len cap x0 x1 x2 x3 _ (h.below ((Below.refl _ _).alloc (Nat.le_refl _) _))).mono ?_
  rintro e w1 ⟨rfl, g1⟩
  have hb1 : Below w.heap.size w w1 := ((Below.refl _ _).alloc (Nat.le_refl _) _).trans ((grownBy_below g1).mono (by simp))
  have k1 : w1.cell? ⟨w.heap.size, 1, none⟩ = some (.iface 33 (.agg #[])) := g1.cell (by go_simp) (by simp)
  clear g1
  go_wp2_with fail
  rw [rounds_succ]
  go_wp2_with fail
  refine (be32 b len cap x0 x1 x2 x3 _ (h.below hb1)).mono ?_
  rintro e w2 ⟨rfl, g2⟩
  have hb2 : Below w.heap.size w w2 := hb1.trans ((grownBy_below g2).mono hb1.size)
  clear g2
  go_wp2_with fail
  go_ret2
  exact ⟨rfl, hb2⟩

set_option maxHeartbeats 1600000 in
theorem order_beB (b len cap : Nat) (x0 x1 x2 x3 : Int) (w : World) (h : Head w b len x0 x1 x2 x3) (n1 : (rd32 x0 x1 x2 x3 == 2712847316) = false) (n2 : (rd32 x0 x1 x2 x3 == 2712812621) = false) (m1 : (rd32 x3 x2 x1 x0 == 2712847316) = false) (m2 : (rd32 x3 x2 x1 x0 == 2712812621) = true) :
    Calls Yba.prog 7 #[.slice (some ⟨b, 0, none⟩) len cap] w fun e w' => e = .returned (.tuple #[.iface 33 (.agg #[]), .bool true]) ∧ Below w.heap.size w w' := by
  have hl : (4 : Int) ≤ (len : Int) := by have := h.len; omega
  have mL := methodLE
  have mB := methodBE
  go_enter Yba.func7, Yba.ntmps7
  go_wp2_with fail
  refine wp_loop_rounds 2 ?_
  rw [rounds_succ]
  go_wp2_with fail
  refine (le32 b len cap x0 x1 x2 x3 _ (h.below ((Below.refl _ _).alloc (Nat.le_refl _) _))).mono ?_
  rintro e w1 ⟨rfl, g1⟩
  have hb1 : Below w.heap.size w w1 := ((Below.refl _ _).alloc (Nat.le_refl _) _).trans ((grownBy_below g1).mono (by simp))
  have k1 : w1.cell? ⟨w.heap.size, 1, none⟩ = some (.iface 33 (.agg #[])) := g1.cell (by go_simp) (by simp)
  clear g1
  go_wp2_with fail
  rw [rounds_succ]
  go_wp2_with fail
  refine (be32 b len cap x0 x1 x2 x3 _ (h.below hb1)).mono ?_
  rintro e w2 ⟨rfl, g2⟩
  have hb2 : Below w.heap.size w w2 := hb1.trans ((grownBy_below g2).mono hb1.size)
  clear g2
  go_wp2_with fail
  go_ret2
  exact ⟨rfl, hb2⟩

end Go.Proofs.Ybulkbeom
