/-
  zzs2776acheck, WALKED: it returns true.
-/
import Derived.Test.YbulkbeluNote
import Derived.Deep.CutRange
import Derived.Deep.Cut
import Derived.Deep.DeepCutAuto
import Derived.ChangeKeysEq
import Derived.Laws.StructEq
namespace Go.Proofs.Ybulkbelu
open Go.RowKit

theorem check_wide (acc : Bool) (s0 s1 s2 s3 u : Int) (sa ua da : Option Addr) (sl sc ul uc dl dc : Nat) (k : Int) (w : World) (h : 1024 < sl ∨ 1024 < ul) :
    Calls Yba.prog 5 #[.bool acc, .agg #[.int .u64 s0, .int .u64 s1, .int .u64 s2, .int .u64 s3], .int .u64 u, .slice sa sl sc, .slice ua ul uc, .int .u8 k, .slice da dl dc] w fun e w' => e = .returned (.bool true) ∧ Below w.heap.size w w' := by
  by_cases h1 : 1024 < sl
  · have e1 : decide ((1024 : Int) < (sl : Int)) = true := decide_eq_true (by omega)
    go_enter Yba.func5, Yba.ntmps5
    go_wp2
    go_ret
    exact ⟨rfl, (Below.refl _ _).alloc (Nat.le_refl _) _⟩
  · have e1 : decide ((1024 : Int) < (sl : Int)) = false := decide_eq_false (by omega)
    have e2 : decide ((1024 : Int) < (ul : Int)) = true := decide_eq_true (by omega)
    go_enter Yba.func5, Yba.ntmps5
    go_wp2
    go_ret
    exact ⟨rfl, (Below.refl _ _).alloc (Nat.le_refl _) _⟩

abbrev boxO (s0 s1 s2 s3 : Int) : Obj := .cells #[.int .u64 s0, .int .u64 s1, .int .u64 s2, .int .u64 s3] 23

theorem ownsRow_base {w : World} {b b' : Nat} {e : TypeId} {size : Nat} {v : Value} {n : Nat} {xs : List Value} (h : w.ownsRow b e size v n xs) (hb : b' ≤ b) : w.ownsRow b' e size v n xs := by
  obtain ⟨h1, h2⟩ := h
  refine ⟨h1, ?_⟩
  rcases h2 with h2 | ⟨g, cap, cur, e1, hg, r⟩
  · exact .inl h2
  · exact .inr ⟨g, cap, cur, e1, by omega, r⟩

theorem note_start {w wA wB : World} {acc : Bool} {s0 s1 s2 s3 u : Int} {v1 v2 : Value} {xs ys : List Int} (gA : (w.alloc (boxO s0 s1 s2 s3)).drew.grownBy wA none) (oA : wA.ownsRow (w.heap.size + 1) 34 1 v1 xs.length (xs.map (Value.int .u16)))
    (gB : wA.grownBy wB none) (oB : wB.ownsRow wA.heap.size 34 1 v2 ys.length (ys.map (Value.int .u16))) :
    NoteAt (wB.alloc (.cells (flowCells acc s0 s1 s2 s3 u v1 v2) 32)) (w.heap.size + 1) wB.heap.size acc s0 s1 s2 s3 u v1 v2 xs ys ∧ Below (w.heap.size + 1) (w.alloc (boxO s0 s1 s2 s3)) (wB.alloc (.cells (flowCells acc s0 s1 s2 s3 u v1 v2) 32)) := by
  have z1 : w.heap.size + 1 ≤ wA.heap.size := by have := gA.size; simpa using this
  have z2 := gB.size
  have oA' := oA.kept gB (by cases v1.ownBlock <;> simp)
  refine ⟨⟨heap_alloc_new _ _, oA'.alloc _, (ownsRow_base oB z1).alloc _, ?_, by omega⟩, ?_⟩
  · cases h1 : v1.ownBlock with
    | none => exact .inl rfl
    | some a =>
      refine .inr (fun e => ?_)
      have := (oA.lt a h1).2
      have := (oB.lt a e.symm).1
      omega
  · have hb : Below (w.heap.size + 1) (w.alloc (boxO s0 s1 s2 s3)) wB := ⟨gB.os.trans gA.os, gB.tape.trans gA.tape, gB.output.trans gA.output, by simp; omega, fun k hk => by
      rw [gB.block k (by omega) (by simp)]
      exact gA.block k (by simpa using hk) (by simp)⟩
    exact hb.alloc (by omega) _

theorem Rd.boxed {k : IntKind} {w wA : World} {ao : Option Addr} {cap : Nat} {xs : List Int} {o : Obj} (h : Rd k w ao cap xs) (hg : (w.alloc o).drew.grownBy wA none) : Rd k wA ao cap xs :=
  h.below ⟨hg.os, hg.tape, hg.output, by have := hg.size; simp at this; omega, fun k hk => (hg.block k (by simp; omega) (by simp)).trans (Below.heap_alloc _ _ _ hk)⟩

theorem Bytes2.boxed {w wc : World} {o : Obj} {da : Option Addr} {d0 d1 : Int} (h : Bytes2 w w.heap.size da d0 d1) (hb : Below (w.heap.size + 1) (w.alloc o) wc) : Bytes2 wc (w.heap.size + 1) da d0 d1 := by
  obtain ⟨b, off, e, hl, h0, h1, r⟩ := h
  exact ⟨b, off, e, by omega, by rw [hb.cell (by show b < _; omega), World.cell?_alloc_lt _ _ _ hl]; exact h0, by rw [hb.cell (by show b < _; omega), World.cell?_alloc_lt _ _ _ hl]; exact h1, r⟩
theorem below_box {w w3 : World} {o : Obj} (h : Below (w.heap.size + 1) (w.alloc o) w3) : Below w.heap.size w w3 :=
  ⟨h.os, h.tape, h.output, by have := h.size; simp at this; omega, fun k hk => (h.block k (by omega)).trans (Below.heap_alloc _ _ _ hk)⟩

/-- 'a != a', arrays of four words. -/
theorem arr_same (w : World) (a b c d : Int) : (binOp .neq 23 (.agg #[.int .u64 a, .int .u64 b, .int .u64 c, .int .u64 d]) (.agg #[.int .u64 a, .int .u64 b, .int .u64 c, .int .u64 d])).run Yba.prog w = .ok (.bool false) w := by
  obtain ⟨i, hi, hz0, hz1, hz2⟩ := info_parts (show (Yba.prog.info? 22).map (fun i => (i.zero, i.size, i.bytes)) = some (some (.int .u64 0), 1, 8) by kernel_rfl)
  have hc : Yba.prog.cellsOf 22 = 1 := by kernel_rfl
  have e : ∀ (d : Nat) (x : Int) (w : World), (Op.equalIn (d + 1) 22 (.int .u64 x) (.int .u64 x)).run Yba.prog w = .ok true w := fun d x w => by
    rw [run_equalIn_int _ d 22 .u64 .u64 x x Yba.underlying22]; simp
  have p0 : ∀ (x y z t : Int) (w : World), (part 22 #[.int .u64 x, .int .u64 y, .int .u64 z, .int .u64 t] 0).run Yba.prog w = .ok (.int .u64 x) w := fun x y z t w => by kernel_rfl
  have p1 : ∀ (x y z t : Int) (w : World), (part 22 #[.int .u64 x, .int .u64 y, .int .u64 z, .int .u64 t] 1).run Yba.prog w = .ok (.int .u64 y) w := fun x y z t w => by kernel_rfl
  have p2 : ∀ (x y z t : Int) (w : World), (part 22 #[.int .u64 x, .int .u64 y, .int .u64 z, .int .u64 t] 2).run Yba.prog w = .ok (.int .u64 z) w := fun x y z t w => by kernel_rfl
  have p3 : ∀ (x y z t : Int) (w : World), (part 22 #[.int .u64 x, .int .u64 y, .int .u64 z, .int .u64 t] 3).run Yba.prog w = .ok (.int .u64 t) w := fun x y z t w => by kernel_rfl
  rw [run_neq_struct, run_equalIn_array w 9999 _ _ Yba.underlying23 hi, hc, show List.range 4 = [0, 1, 2, 3] from rfl]
  simp [Op.eqItems, p0, p1, p2, p3, e 9998]
theorem addL_len (xs : List Int) (x : Int) : (addL xs x).length ≤ xs.length + 1 := by
  unfold addL
  split <;> simp
theorem l1_len (xs : List Int) (k : Int) (dl : Nat) (x : Int) : (l1 xs k dl x).length ≤ xs.length + 1 := by
  unfold l1
  split
  · exact addL_len _ _
  · omega
theorem l2_len (xs : List Int) (k : Int) (dl : Nat) (x : Int) : (l2 xs k dl x).length ≤ xs.length + 1 := by
  unfold l2
  split
  · exact addL_len _ _
  · omega
theorem heap_lt {w : World} {k : Nat} {x : Obj} (h : w.heap[k]? = some x) : k < w.heap.size := by
  rcases Nat.lt_or_ge k w.heap.size with h' | h'
  · exact h'
  · simp [Array.getElem?_eq_none h'] at h
theorem bits_comm (d0 d1 : Int) : bits BinOp.or IntKind.u16 (d0 * 256) d1 = idOf d0 d1 := by
  unfold idOf
  simp only [bits, BitVec.or_comm]

set_option maxRecDepth 100000 in
set_option maxHeartbeats 1600000 in
theorem check_some (acc : Bool) (s0 s1 s2 s3 u : Int) (sa ua da : Option Addr) (xs ys : List Int) (sc uc dl dc : Nat) (k d0 d1 : Int) (w : World) (hx : xs.length ≤ 1024) (hy : ys.length ≤ 1024)
    (rx : Rd .u16 w sa sc xs) (ry : Rd .u16 w ua uc ys) (k0 : 0 ≤ k) (k1 : k ≤ 255) (hB : 2 ≤ dl → Bytes2 w w.heap.size da d0 d1) :
    Calls Yba.prog 5 #[.bool acc, .agg #[.int .u64 s0, .int .u64 s1, .int .u64 s2, .int .u64 s3], .int .u64 u, .slice sa xs.length sc, .slice ua ys.length uc, .int .u8 k, .slice da dl dc] w fun e w' => e = .returned (.bool true) ∧ Below w.heap.size w w' := by
  have e1 : decide ((1024 : Int) < (xs.length : Int)) = false := decide_eq_false (by omega)
  have e2 : decide ((1024 : Int) < (ys.length : Int)) = false := decide_eq_false (by omega)
  go_enter Yba.func5, Yba.ntmps5
  go_upto_region 3 with fail
  go_cut [15] (fun f wx => ∃ fb v1 v2, f = .pointer (some ⟨fb, 0, none⟩) ∧ NoteAt wx (w.heap.size + 1) fb acc s0 s1 s2 s3 u v1 v2 xs ys ∧ Below (w.heap.size + 1) (w.alloc (boxO s0 s1 s2 s3)) wx)
  case first =>
    go_region_with (first
      | (go_at_call_of 7 (Value.slice sa xs.length sc); refine (clone_any sa sc xs _ ?_ hx).mono ?_; exact rx.below ⟨rfl, rfl, rfl, by simp, fun k hk => Below.heap_alloc _ _ _ hk⟩; rintro e wA ⟨v1, rfl, oA, gA⟩; obtain ⟨a1, q1, rfl, rA⟩ := Rd.own oA; have c0 := gA.cell (a := ⟨w.heap.size, 0, none⟩) (v := .int .u64 s0) (by go_simp) (by simp); have c1 := gA.cell (a := ⟨w.heap.size, 1, none⟩) (v := .int .u64 s1) (by go_simp) (by simp); have c2 := gA.cell (a := ⟨w.heap.size, 2, none⟩) (v := .int .u64 s2) (by go_simp) (by simp); have c3 := gA.cell (a := ⟨w.heap.size, 3, none⟩) (v := .int .u64 s3) (by go_simp) (by simp))
      | (go_at_call_of 7 (Value.slice ua ys.length uc); refine (clone_any ua uc ys _ ?_ hy).mono ?_; exact Rd.boxed ry gA; rintro e wB ⟨v2, rfl, oB, gB⟩; obtain ⟨a2, q2, rfl, rB⟩ := Rd.own oB; have c0b := gB.cell c0 (by simp); have c1b := gB.cell c1 (by simp); have c2b := gB.cell c2 (by simp); have c3b := gB.cell c3 (by simp)))
    all_goals (go_wp2_with fail; go_meet; exact ⟨_, _, _, rfl, note_start gA (by simpa using oA) gB oB⟩)
  case rest =>
    obtain ⟨fb, v1, v2, rfl, hN, hbx⟩ := hcut
    go_wp2_with fail
    refine (note_any (w.heap.size + 1) fb acc s0 s1 s2 s3 u v1 v2 xs ys k da dl dc wc hN d0 d1 hx hy k0 k1 (fun hd => (hB hd).boxed hbx)).mono ?_
    rintro e w3 ⟨rfl, v1', v2', hF, o1, o2, hb3⟩
    have hb4 : Below (w.heap.size + 1) (w.alloc (boxO s0 s1 s2 s3)) w3 := hbx.trans hb3
    clear hN hbx hb3
    have c0 : w3.cell? ⟨w.heap.size, 0, none⟩ = some (.int .u64 s0) := (hb4.cell (by simp)).trans (by go_simp)
    have c1 : w3.cell? ⟨w.heap.size, 1, none⟩ = some (.int .u64 s1) := (hb4.cell (by simp)).trans (by go_simp)
    have c2 : w3.cell? ⟨w.heap.size, 2, none⟩ = some (.int .u64 s2) := (hb4.cell (by simp)).trans (by go_simp)
    have c3 : w3.cell? ⟨w.heap.size, 3, none⟩ = some (.int .u64 s3) := (hb4.cell (by simp)).trans (by go_simp)
    have hb5 : Below w.heap.size w w3 := below_box hb4
    clear hb4
    go_upto_if 45 with fail
    go_cut [17] (fun t wx => t = .int .u64 (uw u k) ∧ wx = w3.alloc (boxO (sw s0 0 k) (sw s1 1 k) (sw s2 2 k) s3))
    case first =>
      by_cases hlo : k < 192
      · have hu : Hid (uw u k = u) := show uw u k = u by unfold uw; rw [if_pos hlo]
        by_cases q0 : k / 64 = 0
        · have e3 : Hid (boxO (sw s0 0 k) (sw s1 1 k) (sw s2 2 k) s3 = boxO (orBit s0 (k % 64)) s1 s2 s3) := show boxO (sw s0 0 k) (sw s1 1 k) (sw s2 2 k) s3 = boxO (orBit s0 (k % 64)) s1 s2 s3 by simp [sw, q0]
          go_wp2_with fail
          go_meet
          case rel => exact ⟨by rw [hu.out] <;> rfl, by rw [e3.out] <;> rfl⟩
        · by_cases q1 : k / 64 = 1
          · have e3 : Hid (boxO (sw s0 0 k) (sw s1 1 k) (sw s2 2 k) s3 = boxO s0 (orBit s1 (k % 64)) s2 s3) := show boxO (sw s0 0 k) (sw s1 1 k) (sw s2 2 k) s3 = boxO s0 (orBit s1 (k % 64)) s2 s3 by simp [sw, q1]
            clear q0
            go_wp2_with fail
            go_meet
            case rel => exact ⟨by rw [hu.out] <;> rfl, by rw [e3.out] <;> rfl⟩
          · have q2 : k / 64 = 2 := by omega
            have e3 : Hid (boxO (sw s0 0 k) (sw s1 1 k) (sw s2 2 k) s3 = boxO s0 s1 (orBit s2 (k % 64)) s3) := show boxO (sw s0 0 k) (sw s1 1 k) (sw s2 2 k) s3 = boxO s0 s1 (orBit s2 (k % 64)) s3 by simp [sw, q2]
            clear q0 q1
            go_wp2_with fail
            go_meet
            case rel => exact ⟨by rw [hu.out] <;> rfl, by rw [e3.out] <;> rfl⟩
      · have hu : Hid (uw u k = orBit u (k - 192)) := show uw u k = orBit u (k - 192) by unfold uw; rw [if_neg hlo]
        have e3 : Hid (boxO (sw s0 0 k) (sw s1 1 k) (sw s2 2 k) s3 = boxO s0 s1 s2 s3) := show boxO (sw s0 0 k) (sw s1 1 k) (sw s2 2 k) s3 = boxO s0 s1 s2 s3 by rw [sw_high (by omega) (by omega), sw_high (by omega) (by omega), sw_high (by omega) (by omega)]
        go_wp2_with fail
        go_meet
        case rel => exact ⟨by rw [hu.out] <;> rfl, by rw [e3.out] <;> rfl⟩
    case rest =>
      obtain ⟨rfl, rfl⟩ := hcut
      clear c0 c1 c2 c3 e1 e2
      generalize sw s0 0 k = t0 at hF ⊢
      generalize sw s1 1 k = t1 at hF ⊢
      generalize sw s2 2 k = t2 at hF ⊢
      generalize uw u k = tu at hF ⊢
      have hb6 : Below w.heap.size w (w3.alloc (boxO t0 t1 t2 s3)) := hb5.alloc hb5.size _
      have hF6 : FlowAt (w3.alloc (boxO t0 t1 t2 s3)) fb acc t0 t1 t2 s3 tu v1' v2' := (Below.heap_alloc _ _ _ hF.lt).trans hF
      have o16 := o1.alloc (boxO t0 t1 t2 s3)
      have o26 := o2.alloc (boxO t0 t1 t2 s3)
      have hW6 : (w3.alloc (boxO t0 t1 t2 s3)).heap[w3.heap.size]? = some (boxO t0 t1 t2 s3) := heap_alloc_new _ _
      clear hF o1 o2
      generalize hwb : w3.heap.size = wb at hW6 ⊢
      generalize w3.alloc (boxO t0 t1 t2 s3) = w6 at hb6 hF6 o16 o26 hW6 ⊢
      clear hwb hb5
      go_wp2_with fail
      refine (clone_any sa sc xs w6 (rx.below hb6) hx).mono ?_
      rintro e w7 ⟨x1, rfl, p1, gg1⟩
      go_wp2_with fail
      refine (clone_any ua uc ys w7 ((ry.below hb6).below (grownBy_below gg1)) hy).mono ?_
      rintro e w8 ⟨x2, rfl, p2, gg2⟩
      have b68 : Below w6.heap.size w6 w8 := (grownBy_below gg1).trans ((grownBy_below gg2).mono gg1.size)
      have hb8 : Below w.heap.size w w8 := hb6.trans (b68.mono hb6.size)
      have hF8 : FlowAt w8 fb acc t0 t1 t2 s3 tu v1' v2' := (b68.block _ hF6.lt).trans hF6
      have o18 := (o16.kept gg1 (by cases v1'.ownBlock <;> simp)).kept gg2 (by cases v1'.ownBlock <;> simp)
      have o28 := (o26.kept gg1 (by cases v2'.ownBlock <;> simp)).kept gg2 (by cases v2'.ownBlock <;> simp)
      have hW8 : w8.heap[wb]? = some (boxO t0 t1 t2 s3) := (b68.block _ (heap_lt hW6)).trans hW6
      have p18 := p1.kept gg2 (by cases x1.ownBlock <;> simp)
      clear hF6 o16 o26 hW6 gg1 gg2 p1 b68 hb6
      obtain ⟨xa, xc, rfl, rX⟩ := Rd.own p18
      obtain ⟨ya, yc, rfl, rY⟩ := Rd.own p2
      clear p18 p2
      obtain ⟨fa, fc, rfl, rF1⟩ := Rd.own o18
      obtain ⟨ga, gc, rfl, rF2⟩ := Rd.own o28
      clear o18 o28
      go_upto_if 66 with fail
      go_cut [18, 19] (fun a b wx => ∃ a1 c1 a2 c2, a = .slice a1 (l1 xs k dl (idOf d0 d1)).length c1 ∧ b = .slice a2 (l2 ys k dl (idOf d0 d1)).length c2 ∧ Rd .u16 wx a1 c1 (l1 xs k dl (idOf d0 d1)) ∧ Rd .u16 wx a2 c2 (l2 ys k dl (idOf d0 d1)) ∧ Below w8.heap.size w8 wx)
      case first =>
        by_cases hd : 2 ≤ dl
        · obtain ⟨b, off, rfl, hb, z0, z1, ⟨y0, y0'⟩, y1, y1'⟩ := hB hd
          have z0' := (hb8.cell (p := ⟨b, off, none⟩) hb).trans z0
          have z1' := (hb8.cell (p := ⟨b, off + 1, none⟩) hb).trans z1
          have q0 : (0 : Int) < (dl : Int) := by omega
          have q1 : (1 : Int) < (dl : Int) := by omega
          have q2 : decide ((2 : Int) ≤ (dl : Int)) = true := decide_eq_true (by omega)
          clear z0 z1 hB
          by_cases h7 : k = 127
          · have t7 : (k == 127) = true := by simp [h7]
            have e5 : Hid (l1 xs k dl (idOf d0 d1) = addL xs (idOf d0 d1)) := show l1 xs k dl (idOf d0 d1) = addL xs (idOf d0 d1) by unfold l1; rw [if_pos ⟨hd, h7⟩]
            have e6 : Hid (l2 ys k dl (idOf d0 d1) = ys) := show l2 ys k dl (idOf d0 d1) = ys by unfold l2; rw [if_neg (by omega)]
            clear h7
            go_wp2_with fail
            go_quiet (fail)
            rw [bits_comm]
            go_wp2_with fail
            refine (add_any sa sc xs (idOf d0 d1) (w8.drewN nq) (rx.below (below_drewN hb8 _)) hx).mono ?_
            rintro e w9 ⟨x9, rfl, o9, g9⟩
            have bb : Below w8.heap.size w8 w9 := ⟨g9.os, g9.tape, g9.output, g9.size, fun k hk => g9.block k hk (by simp)⟩
            obtain ⟨a9, c9, rfl, r9⟩ := Rd.own o9
            go_wp2_with fail
            go_meet
            case rel => exact ⟨a9, c9, ya, yc, by rw [e5.out] <;> rfl, by rw [e6.out] <;> rfl, by rw [e5.out]; exact r9, by rw [e6.out]; exact rY.below bb, bb⟩
          · have t7 : (k == 127) = false := by simp [h7]
            have e5 : Hid (l1 xs k dl (idOf d0 d1) = xs) := show l1 xs k dl (idOf d0 d1) = xs by unfold l1; rw [if_neg (by omega)]
            by_cases h4 : k = 254
            · have t4 : (k == 254) = true := by simp [h4]
              have e6 : Hid (l2 ys k dl (idOf d0 d1) = addL ys (idOf d0 d1)) := show l2 ys k dl (idOf d0 d1) = addL ys (idOf d0 d1) by unfold l2; rw [if_pos ⟨hd, h4⟩]
              clear h7 h4
              go_wp2_with fail
              go_quiet (fail)
              rw [bits_comm]
              go_wp2_with fail
              refine (add_any ua uc ys (idOf d0 d1) (w8.drewN nq) (ry.below (below_drewN hb8 _)) hy).mono ?_
              rintro e w9 ⟨x9, rfl, o9, g9⟩
              have bb : Below w8.heap.size w8 w9 := ⟨g9.os, g9.tape, g9.output, g9.size, fun k hk => g9.block k hk (by simp)⟩
              obtain ⟨a9, c9, rfl, r9⟩ := Rd.own o9
              go_wp2_with fail
              go_meet
              case rel => exact ⟨xa, xc, a9, c9, by rw [e5.out] <;> rfl, by rw [e6.out] <;> rfl, by rw [e5.out]; exact rX.below bb, by rw [e6.out]; exact r9, bb⟩
            · have t4 : (k == 254) = false := by simp [h4]
              have e6 : Hid (l2 ys k dl (idOf d0 d1) = ys) := show l2 ys k dl (idOf d0 d1) = ys by unfold l2; rw [if_neg (by omega)]
              clear h7 h4
              go_wp2_with fail
              go_quiet (fail)
              go_wp2_with fail
              go_meet
              case rel => exact ⟨xa, xc, ya, yc, by rw [e5.out] <;> rfl, by rw [e6.out] <;> rfl, by rw [e5.out]; exact rX.below (below_drewN (Below.refl _ _) _), by rw [e6.out]; exact rY.below (below_drewN (Below.refl _ _) _), below_drewN (Below.refl _ _) _⟩
        · have q2 : decide ((2 : Int) ≤ (dl : Int)) = false := decide_eq_false (by omega)
          have e5 : Hid (l1 xs k dl (idOf d0 d1) = xs) := show l1 xs k dl (idOf d0 d1) = xs by unfold l1; rw [if_neg (by omega)]
          have e6 : Hid (l2 ys k dl (idOf d0 d1) = ys) := show l2 ys k dl (idOf d0 d1) = ys by unfold l2; rw [if_neg (by omega)]
          have hd2 : (dl : Int) < 2 := by omega
          go_wp2_with fail
          go_meet
          case rel => exact ⟨xa, xc, ya, yc, by rw [e5.out] <;> rfl, by rw [e6.out] <;> rfl, by rw [e5.out]; exact rX, by rw [e6.out]; exact rY, Below.refl _ _⟩
      case rest =>
        obtain ⟨a1, c1, a2, c2, rfl, rfl, rA1, rA2, bb⟩ := hcut
        have hb9 : Below w.heap.size w wc := hb8.trans (bb.mono hb8.size)
        have hF9 : FlowAt wc fb acc t0 t1 t2 s3 tu _ _ := (bb.block _ hF8.lt).trans hF8
        have rF1' := rF1.below bb
        have rF2' := rF2.below bb
        have hW9 : wc.heap[wb]? = some (boxO t0 t1 t2 s3) := (bb.block _ (heap_lt hW8)).trans hW8
        have g0 := hF9.cell 0
        have g1 := hF9.cell 1
        have g2 := hF9.cell 2
        have g3 := hF9.cell 3
        have g4 := hF9.cell 4
        have g5 := hF9.cell 5
        have g6 := hF9.cell 6
        have g7 := hF9.cell 7
        have n0 := cell_of_row wc wb 0 _ _ _ hW9
        have n1 := cell_of_row wc wb 1 _ _ _ hW9
        have n2 := cell_of_row wc wb 2 _ _ _ hW9
        have n3 := cell_of_row wc wb 3 _ _ _ hW9
        simp only [flowCells, List.getElem?_toArray, List.getElem?_cons_zero, List.getElem?_cons_succ] at g0 g1 g2 g3 g4 g5 g6 g7 n0 n1 n2 n3
        have hL1 : (l1 xs k dl (idOf d0 d1)).length ≤ 2048 := Nat.le_trans (l1_len _ _ _ _) (by omega)
        have hL2 : (l2 ys k dl (idOf d0 d1)).length ≤ 2048 := Nat.le_trans (l2_len _ _ _ _) (by omega)
        generalize l1 xs k dl (idOf d0 d1) = L1 at *
        generalize l2 ys k dl (idOf d0 d1) = L2 at *
        clear hF8 hW8 rF1 rF2 bb hb8 hB rX rY hF9 hW9
        have hne := arr_same
        go_wp2_with fail
        go_quiet (fail)
        clear hne
        go_wp2_with fail
        refine (eq_same fa a1 fc c1 L1 (wc.drewN nq) (rF1'.below (below_drewN (Below.refl _ _) _)) (rA1.below (below_drewN (Below.refl _ _) _)) hL1).mono ?_
        rintro e wd ⟨rfl, qd, rfl⟩
        go_wp2_with fail
        refine (eq_same ga a2 gc c2 L2 _ (rF2'.below (below_drewN (Below.refl _ _) _)) (rA2.below (below_drewN (Below.refl _ _) _)) hL2).mono ?_
        rintro e we ⟨rfl, qe, rfl⟩
        go_wp2_with fail
        go_ret
        exact ⟨rfl, below_drewN hb9 _⟩

end Go.Proofs.Ybulkbelu
