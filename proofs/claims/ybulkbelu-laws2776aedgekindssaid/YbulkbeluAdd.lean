/-
  (bigEndian).Uint16, ie.AppendExID, zzs2776aadd, (*Unsigned256).SetBit, zzs2776akind BY THEIR CONTRACTS.
-/
import Derived.Test.YbulkbeluRd
import Derived.Maps.AppendAt
import Derived.RegionTactic
import Derived.BigRegion
namespace Go.Proofs.Ybulkbelu
open Go.RowKit

theorem grownBy_alloc_trans {w w' : World} {o : Obj} {row : Option Nat} (h : (w.alloc o).grownBy w' row) : w.grownBy w' row :=
  ⟨h.os, h.tape, h.output, by have := h.size; simp at this; omega, fun k hk hne => (h.block k (by simp; omega) hne).trans (Below.heap_alloc _ _ _ hk)⟩
/-- Two steps, the second writing only in what the first made. -/
theorem grown_new {w w1 w2 : World} {row : Option Nat} (h : w.grownBy w1 none) (h2 : w1.grownBy w2 row) (hr : ∀ k, row = some k → w.heap.size ≤ k) : w.grownBy w2 none :=
  ⟨h2.os.trans h.os, h2.tape.trans h.tape, h2.output.trans h.output, Nat.le_trans h.size h2.size, fun k hk _ => (h2.block k (Nat.lt_of_lt_of_le hk h.size) (fun e => by have := hr k e.symm; omega)).trans (h.block k hk (by simp))⟩

/-- The number that Uint16 reads. -/
def idOf (d0 d1 : Int) : Int := bits BinOp.or IntKind.u16 d1 (d0 * 256)

set_option maxHeartbeats 800000 in
theorem uint16_any (a : Option Addr) (cap len : Nat) (d0 d1 : Int) (b off : Nat) (w : World) (ha : a = some ⟨b, off, none⟩) (hlen : 2 ≤ len) (hb : b < w.heap.size)
    (h0 : w.cell? ⟨b, off, none⟩ = some (.int .u8 d0)) (h1 : w.cell? ⟨b, off + 1, none⟩ = some (.int .u8 d1)) (c0 : 0 ≤ d0) (c0' : d0 ≤ 255) (c1 : 0 ≤ d1) (c1' : d1 ≤ 255) :
    Calls Yba.prog 13 #[.agg #[], .slice a len cap] w fun e w' => e = .returned (.int .u16 (idOf d0 d1)) ∧ w.grownBy w' none := by
  subst ha
  have l0 : (0 : Int) < (len : Int) := by omega
  have l1 : (1 : Int) < (len : Int) := by omega
  go_enter Yba.func13, Yba.ntmps13
  go_wp2
  go_quiet (fail)
  go_wp2
  go_ret
  exact ⟨rfl, ⟨rfl, rfl, rfl, by simp, fun k hk _ => Below.heap_alloc _ _ _ hk⟩⟩

/-- What both adders come to. -/
def addL (xs : List Int) (x : Int) : List Int := if 256 ≤ xs.length ∨ x ∈ xs then xs else xs ++ [x]

set_option maxHeartbeats 800000 in
theorem appendEx_any (base : Nat) (v : Value) (xs : List Int) (x : Int) (w : World) (hown : w.ownsRow base 34 1 v xs.length (xs.map (Value.int .u16))) (hb : base ≤ w.heap.size) (hl : xs.length ≤ 1024) :
    Calls Yba.prog 12 #[v, .int .u16 x] w fun e w' => ∃ v', e = .returned v' ∧ w'.ownsRow base 34 1 v' (addL xs x).length ((addL xs x).map (Value.int .u16)) ∧ w.grownBy w' v.ownBlock := by
  obtain ⟨i0, hi, hz0, hz1, hz2⟩ := info_parts info34
  obtain ⟨ao, cap, rfl, hr⟩ := Rd.own hown
  by_cases h1 : 256 ≤ xs.length
  · have hd : decide ((256 : Int) ≤ (xs.length : Int)) = true := decide_eq_true (by omega)
    have e : addL xs x = xs := by simp [addL, h1]
    rw [e]
    go_enter Yba.func12, Yba.ntmps12
    go_wp2
    go_ret
    exact ⟨_, rfl, hown, World.grownBy.refl _ _⟩
  · have hd : decide ((256 : Int) ≤ (xs.length : Int)) = false := decide_eq_false (by omega)
    by_cases h2 : x ∈ xs
    · have e : addL xs x = xs := by simp [addL, h2]
      rw [e]
      have hm : decide (x ∈ xs) = true := decide_eq_true h2
      go_enter Yba.func12, Yba.ntmps12
      go_wp2_with (go_at_call 14; refine (contains_any ao cap xs x _ hr (by omega)).mono ?_; rintro e w' ⟨rfl, rfl⟩)
      go_ret
      exact ⟨_, rfl, hown, World.grownBy.refl _ _⟩
    · have e : addL xs x = xs ++ [x] := by simp [addL, h1, h2]
      rw [e]
      have hm : decide (x ∈ xs) = false := decide_eq_false h2
      go_enter Yba.func12, Yba.ntmps12
      go_wp2_with (first
        | (go_at_call 14; refine (contains_any ao cap xs x _ hr (by omega)).mono ?_; rintro e w' ⟨rfl, rfl⟩)
        | (at_builtin; refine wpList_append_own _ rfl _ _ 24 rfl base 34 i0 (.int .u16 0) 1 2 Yba.underlying24 hi hz0 hz1 hz2 rfl (by decide) _ _ _ rfl (hown.alloc _) ⟨_, 0, none⟩ 1 1 [.int .u16 x] rfl rfl (cell_one_new _ _ _) ?c2 ?c3 ?c4 ?c5 ?_))
      case c2 => intro u hu; simp at hu; subst hu; rfl
      case c3 => unfold maxLen; omega
      case c4 => omega
      case c5 => simp; omega
      intro v' w1 hown' hgrow _
      go_wp2
      go_ret
      exact ⟨_, rfl, by simpa using hown', (grownBy_alloc_trans hgrow)⟩

set_option maxHeartbeats 800000 in
theorem add_any (ao : Option Addr) (cap : Nat) (xs : List Int) (x : Int) (w : World) (hr : Rd .u16 w ao cap xs) (hl : xs.length ≤ 1024) :
    Calls Yba.prog 9 #[.slice ao xs.length cap, .int .u16 x] w fun e w' => ∃ v', e = .returned v' ∧ w'.ownsRow w.heap.size 34 1 v' (addL xs x).length ((addL xs x).map (Value.int .u16)) ∧ w.grownBy w' none := by
  obtain ⟨i0, hi, hz0, hz1, hz2⟩ := info_parts info34
  by_cases h1 : 256 ≤ xs.length
  · have hd : decide ((256 : Int) ≤ (xs.length : Int)) = true := decide_eq_true (by omega)
    have e : addL xs x = xs := by simp [addL, h1]
    rw [e]
    go_enter Yba.func9, Yba.ntmps9
    go_wp2_with (go_at_call 7; refine (clone_any ao cap xs _ hr hl).mono ?_; rintro e w1 ⟨v, rfl, hown, hg⟩)
    go_ret
    exact ⟨_, rfl, hown, hg⟩
  · have hd : decide ((256 : Int) ≤ (xs.length : Int)) = false := decide_eq_false (by omega)
    go_enter Yba.func9, Yba.ntmps9
    go_wp2_with (go_at_call 7; refine (clone_any ao cap xs _ hr hl).mono ?_; rintro e w1 ⟨v, rfl, hown, hg⟩)
    have hr1 : Rd .u16 w1 ao cap xs := hr.below (grownBy_below hg)
    go_loop [6] (fun i => ∃ k : Nat, k ≤ xs.length ∧ i = .int .i64 k ∧ x ∉ xs.take k) (fun i => xs.length - (intOf i).toNat)
    case atStart => exact ⟨0, Nat.zero_le _, rfl, by simp⟩
    case round =>
      obtain ⟨k, hk, rfl, hno⟩ := hrel
      have HN : Hid (x ∉ xs.take k) := hno
      clear hno
      by_cases hlt : k < xs.length
      · obtain ⟨b1, o1, e1, g0⟩ := hr1.at hlt
        subst e1
        have g1 := g0 k hlt
        rw [getD_at hlt] at g1
        clear g0 hr1 hr
        by_cases hx : xs[k] = x
        · have hbx : (xs[k] == x) = true := by simp [hx]
          have e : addL xs x = xs := by simp [addL, ← hx]
          have HX : Hid (addL xs x = xs) := e
          clear hx e
          go_wp2
          go_ret
          rw [HX.out]
          exact ⟨_, rfl, hown, hg⟩
        · have hbx : (xs[k] == x) = false := by simp [hx]
          have HX : Hid (xs[k] ≠ x) := hx
          clear hx
          go_wp2
          go_round
          case rel =>
            refine ⟨k + 1, by omega, by go_num, ?_⟩
            rw [List.take_succ_eq_append_getElem hlt]
            simp only [List.mem_append, List.mem_singleton, not_or]
            exact ⟨HN.out, HX.out.symm⟩
          case measure => simp [intOf]; omega
      · have e : addL xs x = xs ++ [x] := by
          have := HN.out
          rw [List.take_of_length_le (by omega)] at this
          simp [addL, h1, this]
        have HX : Hid (addL xs x = xs ++ [x]) := e
        clear e
        go_wp2_with (at_builtin; refine wpList_append_own _ rfl _ _ 24 rfl w.heap.size 34 i0 (.int .u16 0) 1 2 Yba.underlying24 hi hz0 hz1 hz2 rfl (by decide) _ _ _ rfl (hown.alloc _) ⟨_, 0, none⟩ 1 1 [.int .u16 x] rfl rfl (cell_one_new _ _ _) ?c2 ?c3 ?c4 ?c5 ?_)
        case c2 => rfl
        case c3 => unfold maxLen; omega
        case c4 => omega
        case c5 => have := hg.size; simp; omega
        intro v' w2 hown' hgrow _
        go_wp2
        go_ret
        rw [HX.out]
        exact ⟨_, rfl, by simpa using hown', grown_new hg (grownBy_alloc_trans hgrow) (fun k hk => (hown.lt k hk).1)⟩

/-! ### SetBit -/
/-- 's | 1 << r', of a word. -/
def orBit (s r : Int) : Int := bits BinOp.or IntKind.u64 s (IntKind.u64.wrap (2 ^ r.toNat))
set_option maxHeartbeats 800000 in
theorem setBit_any (fb q : Nat) (n s : Int) (w : World) (hq : n / 64 = (q : Int)) (h0 : 0 ≤ n) (h1 : n ≤ 255)
    (hc : w.cell? ⟨fb, 1 + q, none⟩ = some (.int .u64 s)) (hf : w.frozen? ⟨fb, 1 + q, none⟩ = false) :
    Calls Yba.prog 11 #[.pointer (some ⟨fb, 1, none⟩), .int .u8 n] w fun e w' => e = .returned (.tuple #[]) ∧ w' = (w.setCell ⟨fb, 1 + q, none⟩ (.int .u64 (orBit s (n % 64)))).drew := by
  go_enter Yba.func11, Yba.ntmps11
  go_wp2
  go_region
  all_goals (go_end0; exact ⟨rfl, rfl⟩)

set_option maxHeartbeats 800000 in
theorem kind_any (p : Int) (w : World) (h0 : 0 ≤ p) (h1 : p ≤ 255) :
    Calls Yba.prog 6 #[.int .u8 p] w fun e w' => (∃ k : Int, e = .returned (.int .u8 k) ∧ 0 ≤ k ∧ k ≤ 255) ∧ w' = w := by
  go_enter Yba.func6, Yba.ntmps6
  go_wp2
  all_goals (go_ret; exact ⟨⟨_, rfl, by omega, by omega⟩, rfl⟩)

end Go.Proofs.Ybulkbelu
