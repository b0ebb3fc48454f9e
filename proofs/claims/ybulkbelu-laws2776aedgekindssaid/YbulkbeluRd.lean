/-
  READING A SLICE OF uint16 IN A WORLD; zzs2776aclone, zzs2776aeq, slices.Index, slices.Contains, BY THEIR CONTRACTS.
-/
import Derived.Test.YbulkbeluChecked
import Derived.WalkKit
import Derived.WalkSpells
import Derived.Lib.SliceRun
import Derived.Deep.QuietTactic
import Derived.BigQuiet
namespace Go.Proofs.Ybulkbelu
open Go.RowKit

theorem info34 : (Yba.prog.info? 34).map (fun i => (i.zero, i.size, i.bytes)) = some (some (.int .u16 0), 1, 2) := by kernel_rfl

/-- 'ao', 'cap' (and the list's length) are a slice that reads as the numbers xs. -/
structure Rd (k : IntKind) (w : World) (ao : Option Addr) (cap : Nat) (xs : List Int) : Prop where
  nil : ao = none → xs = [] ∧ cap = 0
  cells : xs ≠ [] → ∃ b off, ao = some ⟨b, off, none⟩ ∧ ∀ i, i < xs.length → w.cell? ⟨b, off + i, none⟩ = some (.int k (xs.getD i 0))

theorem Rd.at {k : IntKind} {w : World} {ao : Option Addr} {cap : Nat} {xs : List Int} (h : Rd k w ao cap xs) {i : Nat} (hi : i < xs.length) :
    ∃ b off, ao = some ⟨b, off, none⟩ ∧ ∀ i, i < xs.length → w.cell? ⟨b, off + i, none⟩ = some (.int k (xs.getD i 0)) :=
  h.cells (fun e => by subst e; simp at hi)

theorem Rd.below {k : IntKind} {w w' : World} {ao : Option Addr} {cap : Nat} {xs : List Int} (h : Rd k w ao cap xs) (hb : Below w.heap.size w w') : Rd k w' ao cap xs := by
  refine ⟨h.nil, fun hne => ?_⟩
  obtain ⟨b, off, e, hc⟩ := h.cells hne
  refine ⟨b, off, e, fun i hi => ?_⟩
  rw [hb.cell (World.block_lt_of_cell? _ _ (hc i hi))]
  exact hc i hi

/-- A row of the call's own reads as it says. -/
theorem Rd.own {w : World} {base n : Nat} {v : Value} {xs : List Int} (h : w.ownsRow base 34 1 v n (xs.map (Value.int .u16))) :
    ∃ ao cap, v = .slice ao xs.length cap ∧ Rd .u16 w ao cap xs := by
  have hl : xs.length = n := by simpa using h.1
  subst hl
  rcases h.2 with ⟨rfl, hn⟩ | ⟨g, cap, cur, rfl, _⟩
  · obtain rfl : xs = [] := List.eq_nil_of_length_eq_zero hn
    exact ⟨none, 0, rfl, fun _ => ⟨rfl, rfl⟩, fun h => absurd rfl h⟩
  · refine ⟨some ⟨g, 0, none⟩, cap, rfl, (fun e => by cases e), fun _ => ⟨g, 0, rfl, fun i hi => ?_⟩⟩
    have hc := h.cellAt i (by omega)
    rw [Nat.zero_add, hc]
    simp [List.getD, List.getElem?_eq_getElem hi]

theorem grownBy_below {w w' : World} (h : w.grownBy w' none) : Below w.heap.size w w' := ⟨h.os, h.tape, h.output, h.size, fun k hk => h.block k hk (by simp)⟩
theorem below_drewN {B : Nat} {a w : World} (h : Below B a w) (n : Nat) : Below B a (w.drewN n) := ⟨h.os, h.tape, h.output, h.size, h.block⟩
theorem ownsRow_drewN {w : World} {base : Nat} {e : TypeId} {size : Nat} {v : Value} {n : Nat} {xs : List Value} (h : w.ownsRow base e size v n xs) (q : Nat) : (w.drewN q).ownsRow base e size v n xs := h

theorem getD_at {xs : List Int} {k : Nat} (h : k < xs.length) : xs.getD k 0 = xs[k] := by simp [List.getD, List.getElem?_eq_getElem h]

/-! ### clone -/
def cloneTo (xs : List Int) (k : Nat) : List Int := xs.take k ++ List.replicate (xs.length - k) 0
theorem cloneTo_step (xs : List Int) (k : Nat) (hk : k < xs.length) : ((cloneTo xs k).map (Value.int .u16)).set k (.int .u16 (xs.getD k 0)) = (cloneTo xs (k + 1)).map (Value.int .u16) := by
  rw [← List.map_set]
  congr 1
  obtain ⟨m, hm⟩ : ∃ m, xs.length - k = m + 1 := ⟨xs.length - k - 1, by omega⟩
  unfold cloneTo
  rw [hm, show xs.length - (k + 1) = m by omega, List.replicate_succ, List.set_append_right _ _ (by simp; omega), List.take_succ_eq_append_getElem hk, List.length_take, Nat.min_eq_left (by omega)]
  simp only [Nat.sub_self, List.set_cons_zero, List.append_assoc, List.cons_append, List.nil_append, List.getD, List.getElem?_eq_getElem hk, Option.getD_some]
theorem cloneTo_zero (xs : List Int) : (cloneTo xs 0).map (Value.int .u16) = List.replicate xs.length (.int .u16 0) := by simp [cloneTo]
theorem cloneTo_all (xs : List Int) : cloneTo xs xs.length = xs := by simp [cloneTo]

set_option maxHeartbeats 800000 in
theorem clone_some (a : Addr) (cap : Nat) (xs : List Int) (w : World) (hr : Rd .u16 w (some a) cap xs) (hl : xs.length ≤ 1024) :
    Calls Yba.prog 7 #[.slice (some a) xs.length cap] w fun e w' => ∃ v, e = .returned v ∧ w'.ownsRow w.heap.size 34 1 v xs.length (xs.map (Value.int .u16)) ∧ w.grownBy w' none := by
  obtain ⟨i0, hi, hz0, hz1, hz2⟩ := info_parts info34
  have hnil := fun (wx : World) => Lib.run_eql_slice_nil (P := Yba.prog) wx 24 34 (some a) xs.length cap 0 0 Yba.underlying24
  go_enter Yba.func7, Yba.ntmps7
  go_wp2_with (first
    | (at_make; refine wpList_make_full _ rfl (.tmp 8) (.tmp 8) 24 rfl w.heap.size 34 i0 (.int .u16 0) 1 Yba.underlying24 hi hz0 hz1 .i64 .i64 _ _ xs.length rfl rfl rfl rfl ?b2 ?b3 (Nat.le_refl _) ?_))
  case b2 => rw [hz2]; omega
  case b3 => unfold maxLen; omega
  intro w1 hown hg
  rw [toList_madeCells_one, ← cloneTo_zero] at hown
  have hb0 : Below w.heap.size w w1 := grownBy_below hg
  go_wp2_with fail
  go_loopw [4] (fun i wr => ∃ k : Nat, k ≤ xs.length ∧ i = .int .i64 k ∧ wr.ownsRow w.heap.size 34 1 (.slice (some ⟨w.heap.size, 0, none⟩) xs.length xs.length) xs.length ((cloneTo xs k).map (Value.int .u16)) ∧ Below w.heap.size w wr)
    (fun i _ => xs.length - (intOf i).toNat)
  case atStart => exact ⟨0, Nat.zero_le _, rfl, hown, hb0⟩
  case round =>
    clear hown hb0 hg
    obtain ⟨k, hk, rfl, hown, hbw⟩ := hrel
    by_cases hlt : k < xs.length
    · obtain ⟨b, off, e, hc⟩ := hr.at hlt
      obtain rfl := Option.some.inj e
      have hcl : wr.cell? ⟨b, off + k, none⟩ = some (.int .u16 (xs.getD k 0)) := (hbw.cell (World.block_lt_of_cell? _ _ (hc k hlt))).trans (hc k hlt)
      have hst := hown.stored k (.int .u16 (xs.getD k 0))
      rw [cloneTo_step xs k hlt] at hst
      obtain ⟨old, hold⟩ : ∃ old, wr.cell? ⟨w.heap.size, k, none⟩ = some old := by
        have h1 := hown.cellAt k (by omega)
        have h2 : k < ((cloneTo xs k).map (Value.int .u16)).length := by simp [cloneTo]; omega
        exact ⟨_, h1.trans (List.getElem?_eq_getElem h2)⟩
      have hfz := hown.frozenAt k
      have HS : Hid ((wr.setCell ⟨w.heap.size, k, none⟩ (.int .u16 (xs.getD k 0))).ownsRow w.heap.size 34 1 (.slice (some ⟨w.heap.size, 0, none⟩) xs.length xs.length) xs.length ((cloneTo xs (k + 1)).map (Value.int .u16))) := hst.1
      clear hst hc hown e
      rw [getD_at hlt] at HS
      go_wp2
      go_roundw
      case rel => exact ⟨k + 1, by omega, by go_num, HS.out, hbw.setCell (Nat.le_refl _) _⟩
      case measure => simp [intOf]; omega
    · obtain rfl : k = xs.length := by omega
      rw [cloneTo_all] at hown
      have HO : Hid (wr.ownsRow w.heap.size 34 1 (.slice (some ⟨w.heap.size, 0, none⟩) xs.length xs.length) xs.length (xs.map (Value.int .u16))) := hown
      clear hown
      go_wp2
      go_ret
      exact ⟨_, rfl, HO.out, ⟨hbw.os, hbw.tape, hbw.output, hbw.size, fun k hk _ => hbw.block k hk⟩⟩

theorem clone_nil (w : World) : Calls Yba.prog 7 #[.slice none 0 0] w fun e w' => e = .returned (.slice none 0 0) ∧ w' = w := by
  have hnil := fun (wx : World) => Lib.run_eql_slice_nil (P := Yba.prog) wx 24 34 none 0 0 0 0 Yba.underlying24
  go_enter Yba.func7, Yba.ntmps7
  go_wp2
  go_ret
  exact ⟨rfl, rfl⟩

theorem clone_any (ao : Option Addr) (cap : Nat) (xs : List Int) (w : World) (hr : Rd .u16 w ao cap xs) (hl : xs.length ≤ 1024) :
    Calls Yba.prog 7 #[.slice ao xs.length cap] w fun e w' => ∃ v, e = .returned v ∧ w'.ownsRow w.heap.size 34 1 v xs.length (xs.map (Value.int .u16)) ∧ w.grownBy w' none := by
  cases ao with
  | some a => exact clone_some a cap xs w hr hl
  | none =>
    obtain ⟨rfl, rfl⟩ := hr.nil rfl
    refine (clone_nil w).mono ?_
    rintro e w' ⟨rfl, rfl⟩
    exact ⟨_, rfl, World.ownsRow_nil _ _ _ _, World.grownBy.refl _ _⟩

/-! ### eq -/
set_option maxHeartbeats 800000 in
theorem eq_same (a b : Option Addr) (ca cb : Nat) (xs : List Int) (w : World) (ha : Rd .u16 w a ca xs) (hb : Rd .u16 w b cb xs) (hl : xs.length ≤ 2048) :
    Calls Yba.prog 10 #[.slice a xs.length ca, .slice b xs.length cb] w fun e w' => e = .returned (.bool true) ∧ ∃ q, w' = w.drewN q := by
  go_enter Yba.func10, Yba.ntmps10
  go_wp2
  go_loopw [5] (fun i wr => ∃ k : Nat, k ≤ xs.length ∧ i = .int .i64 k ∧ ∃ q, wr = w.drewN q) (fun i _ => xs.length - (intOf i).toNat)
  case atStart => exact ⟨0, Nat.zero_le _, rfl, 0, rfl⟩
  case round =>
    obtain ⟨k, hk, rfl, q, rfl⟩ := hrel
    by_cases hlt : k < xs.length
    · obtain ⟨b1, o1, e1, h1⟩ := ha.at hlt
      obtain ⟨b2, o2, e2, h2⟩ := hb.at hlt
      subst e1
      subst e2
      have g1 := h1 k hlt
      have g2 := h2 k hlt
      clear h1 h2 ha hb
      have hli : (k : Int) < (xs.length : Int) := by omega
      go_wp2
      go_quiet (fail)
      go_wp2
      go_roundw
      case rel => exact ⟨k + 1, by omega, by go_num, q + nq, rfl⟩
      case measure => simp [intOf]; omega
    · go_wp2
      go_ret
      exact ⟨rfl, q, rfl⟩

/-! ### slices.Index, slices.Contains -/
set_option maxHeartbeats 800000 in
theorem index_any (a : Option Addr) (cap : Nat) (xs : List Int) (x : Int) (w : World) (ha : Rd .u16 w a cap xs) (hl : xs.length ≤ 2048) :
    Calls Yba.prog 15 #[.slice a xs.length cap, .int .u16 x] w fun e w' => (∃ r : Int, e = .returned (.int .i64 r) ∧ (0 ≤ r ↔ x ∈ xs)) ∧ w' = w := by
  go_enter Yba.func15, Yba.ntmps15
  go_wp2
  go_loop [8] (fun i => ∃ k : Nat, k ≤ xs.length ∧ i = .int .i64 k ∧ x ∉ xs.take k) (fun i => xs.length - (intOf i).toNat)
  case atStart => exact ⟨0, Nat.zero_le _, rfl, by simp⟩
  case round =>
    obtain ⟨k, hk, rfl, hno⟩ := hrel
    have HN : Hid (x ∉ xs.take k) := hno
    clear hno
    by_cases hlt : k < xs.length
    · obtain ⟨b1, o1, e1, h1⟩ := ha.at hlt
      subst e1
      have g1 := h1 k hlt
      rw [getD_at hlt] at g1
      clear h1 ha
      by_cases hx : x = xs[k]
      · have hbx : (x == xs[k]) = true := by simp [hx]
        have HX : Hid (x = xs[k]) := hx
        clear hx
        go_wp2
        go_ret
        exact ⟨⟨_, rfl, iff_of_true (by omega) (by rw [HX.out]; exact List.getElem_mem hlt)⟩, rfl⟩
      · have hbx : (x == xs[k]) = false := by simp [hx]
        have HX : Hid (x ≠ xs[k]) := hx
        clear hx
        go_wp2
        go_round
        case rel =>
          refine ⟨k + 1, by omega, by go_num, ?_⟩
          rw [List.take_succ_eq_append_getElem hlt]
          simp only [List.mem_append, List.mem_singleton, not_or]
          exact ⟨HN.out, HX.out⟩
        case measure => simp [intOf]; omega
    · go_wp2
      go_ret
      refine ⟨⟨_, rfl, ?_⟩, rfl⟩
      have := HN.out
      rw [List.take_of_length_le (by omega)] at this
      exact iff_of_false (by omega) this

theorem contains_any (a : Option Addr) (cap : Nat) (xs : List Int) (x : Int) (w : World) (ha : Rd .u16 w a cap xs) (hl : xs.length ≤ 2048) :
    Calls Yba.prog 14 #[.slice a xs.length cap, .int .u16 x] w fun e w' => e = .returned (.bool (decide (x ∈ xs))) ∧ w' = w := by
  go_enter Yba.func14, Yba.ntmps14
  go_wp2_with fail
  refine (index_any a cap xs x _ ha hl).mono ?_
  rintro e w' ⟨⟨r, rfl, hd⟩, rfl⟩
  have HD : Hid ((0 ≤ r ↔ x ∈ xs)) := hd
  clear hd
  go_wp2
  go_ret
  exact ⟨congrArg (fun b => Ending.returned (Value.bool b)) (decide_eq_decide.2 HD.out), rfl⟩

end Go.Proofs.Ybulkbelu
