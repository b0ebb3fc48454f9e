/-
  A SLICE OF THE CALL's OWN THAT IS CUT AT ITS HEAD AND APPENDED TO.
-/
import Derived.Test.YbulkbeomGet3
import Derived.ArgAppend
import Derived.Deep.AppendLies
import Derived.OwnWalk
namespace Go.Proofs.Ybulkbeom.pendB
open Go.RowKit
set_option linter.unusedVariables false

theorem info3 : (Yba.prog.info? 3).map (fun i => (i.zero, i.size, i.bytes)) = some (some (.int .i64 0), 1, 8) := by kernel_rfl

/-- n numbers f 0 .. f (n - 1), at off in the row g. -/
structure Win (w : World) (base g off n cap : Nat) (f : Nat → Int) : Prop where
  b : base ≤ g
  le : n ≤ cap
  max : cap ≤ maxLen
  row : ∃ cur, w.heap[g]? = some (.cells cur 3) ∧ cur.size = off + cap ∧ ∀ j, j < n → cur[off + j]? = some (.int .i64 (f j))

theorem Win.lt {w : World} {base g off n cap : Nat} {f : Nat → Int} (h : Win w base g off n cap f) : g < w.heap.size := by
  obtain ⟨cur, hr, _⟩ := h.row
  exact (Array.getElem?_eq_some_iff.1 hr).1
theorem Win.cell {w : World} {base g off n cap : Nat} {f : Nat → Int} (h : Win w base g off n cap f) {j : Nat} (hj : j < n) : w.cell? ⟨g, off + j, none⟩ = some (.int .i64 (f j)) := by
  obtain ⟨cur, hr, _, hc⟩ := h.row
  rw [cell_of_row w g (off + j) cur 3 _ hr]
  exact hc j hj
theorem Win.fr {w w' : World} {base ctr g off n cap : Nat} {f : Nat → Int} (h : Win w base g off n cap f) (hF : Fr base ctr w w') (hne : g ≠ ctr) : Win w' base g off n cap f := by
  obtain ⟨cur, hr, hs, hc⟩ := h.row
  exact ⟨h.b, h.le, h.max, cur, hF.rows g cur hne hr, hs, hc⟩
theorem Win.kept {w w' : World} {base g off n cap : Nat} {f : Nat → Int} {row : Option Nat} (h : Win w base g off n cap f) (hg : w.grownBy w' row) (hne : some g ≠ row) : Win w' base g off n cap f := by
  obtain ⟨cur, hr, hs, hc⟩ := h.row
  exact ⟨h.b, h.le, h.max, cur, (hg.block g h.lt hne).trans hr, hs, hc⟩
theorem Win.alloc {w : World} {base g off n cap : Nat} {f : Nat → Int} (h : Win w base g off n cap f) (o : Obj) : Win (w.alloc o) base g off n cap f := h.kept (World.grownBy_alloc w o none) (by simp)
theorem Win.ext {w : World} {base g off n cap : Nat} {f f' : Nat → Int} (h : Win w base g off n cap f) (he : ∀ j, j < n → f' j = f j) : Win w base g off n cap f' := by
  obtain ⟨cur, hr, hs, hc⟩ := h.row
  exact ⟨h.b, h.le, h.max, cur, hr, hs, fun j hj => by rw [he j hj]; exact hc j hj⟩
/-- s[1:]. -/
theorem Win.tail {w : World} {base g off n cap : Nat} {f : Nat → Int} (h : Win w base g off (n + 1) (cap + 1) f) : Win w base g (off + 1) n cap (fun j => f (j + 1)) := by
  obtain ⟨cur, hr, hs, hc⟩ := h.row
  refine ⟨h.b, by have := h.le; omega, by have := h.max; omega, cur, hr, by omega, fun j hj => ?_⟩
  have := hc (j + 1) (by omega)
  rw [show off + 1 + j = off + (j + 1) by omega]
  exact this

theorem Win.of_owns {w : World} {base g n cap : Nat} {xs : List Value} {f : Nat → Int} (h : w.ownsRow base 3 1 (.slice (some ⟨g, 0, none⟩) n cap) n xs) (hf : ∀ j, j < n → xs[j]? = some (.int .i64 (f j))) : Win w base g 0 n cap f := by
  rcases h.2 with ⟨h0, _⟩ | ⟨g', cap', cur, hv, hb, hg, hnc, hcm, hcs, htake⟩
  · cases h0
  · simp only [Value.slice.injEq, Option.some.injEq, Addr.mk.injEq, and_true, true_and] at hv
    obtain ⟨rfl, rfl⟩ := hv
    refine ⟨hb, hnc, hcm, cur, hg, by simpa using hcs, fun j hj => ?_⟩
    have := hf j hj
    rw [← htake, List.getElem?_take_of_lt (by omega)] at this
    simpa using this

theorem run_append_win {w : World} {base g off n cap : Nat} {f : Nat → Int} (h : Win w base g off n cap f) (xb : Nat) (x : Int) (hx : w.heap[xb]? = some (.cells #[.int .i64 x] 3)) (hn : n ≤ 100000) (hbase : base ≤ w.heap.size) (ty : TypeId) :
    ∃ g' off' cap' w', (Builtin.append_ #[43, 43] ty #[.slice (some ⟨g, off, none⟩) n cap, .slice (some ⟨xb, 0, none⟩) 1 1]).run Yba.prog w = .ok (.slice (some ⟨g', off', none⟩) (n + 1) cap') w' ∧
      Win w' base g' off' (n + 1) cap' (upd f n x) ∧ w.grownBy w' (some g) ∧ (g' = g ∨ w.heap.size ≤ g') := by
  obtain ⟨i, hi, hz0, hz1, hz2⟩ := info_parts info3
  have hnews : ∀ j u, [Value.int .i64 x][j]? = some u → w.cell? ((⟨xb, 0, none⟩ : Addr).add j) = some u := World.news_of_block hx
  obtain ⟨cur, hr, hs, hc⟩ := h.row
  by_cases hroom : n + 1 ≤ cap
  · have hrun := run_append_room_cells (P := Yba.prog) w 43 ty 3 i Yba.underlying43 hi g off n cap ⟨xb, 0, none⟩ 1 1 [.int .i64 x] (by simp [hz1]) hnews (by simp [Value.oneCell']) hroom
      (fun j hj => by rw [cell_of_row w g _ cur 3 _ hr, hz1]; simp at hj ⊢; omega) (fun j hj => frozen_of_row w g _ cur 3 hr)
    rw [hz1] at hrun
    have hset : w.setCells g (off + n * 1) [.int .i64 x] = w.setCell ⟨g, off + n, none⟩ (.int .i64 x) := by simp [World.setCells]
    rw [hset] at hrun
    refine ⟨g, off, cap, _, hrun, ⟨h.b, hroom, h.max, cur.setIfInBounds (off + n) (.int .i64 x), heap_setCell_same w g (off + n) cur 3 _ hr, by simpa using hs, fun j hj => ?_⟩, ⟨rfl, rfl, rfl, by simp, fun k hk hne => heap_setCell_other w _ k _ (fun e => hne (by rw [e]))⟩, .inl rfl⟩
    by_cases e : j = n
    · subst e
      rw [upd_same, Array.getElem?_setIfInBounds]
      rw [if_pos rfl, if_pos (by omega)]
    · rw [upd_other _ _ e, Array.getElem?_setIfInBounds]
      rw [if_neg (by omega)]
      exact hc j (by omega)
  · have hl : ((List.range n).map fun j => Value.int .i64 (f j)).length = n * 1 := by simp
    have hat : ∀ j, j < n → ((List.range n).map fun j => Value.int .i64 (f j))[j]? = some (.int .i64 (f j)) := fun j hj => by simp [hj]
    obtain ⟨v', w', hrun, ho, hg⟩ := run_append_arg_grows (P := Yba.prog) w 43 ty 3 i (.int .i64 0) 1 8 Yba.underlying43 hi hz0 hz1 hz2 rfl (by decide) ⟨g, off, none⟩ n cap ((List.range n).map fun j => Value.int .i64 (f j)) hl
      (fun j u hu => by
        have hj : j < n := by
          have := (List.getElem?_eq_some_iff.1 hu).1
          simpa using this
        rw [hat j hj] at hu
        cases hu
        have ha : (⟨g, off, none⟩ : Addr).add j = ⟨g, off + j, none⟩ := by unfold Addr.add; split <;> simp_all
        rw [ha]
        exact h.cell hj)
      ⟨xb, 0, none⟩ 1 1 [.int .i64 x] (by simp) hnews (by omega) (by unfold maxLen; omega) (by omega)
    obtain ⟨g', cap', rfl, hb', hlt⟩ := ho.form (by omega)
    have hW : Win w' w.heap.size g' 0 (n + 1) cap' (upd f n x) := Win.of_owns ho (fun j hj => by
      by_cases e : j = n
      · subst e
        rw [upd_same, List.getElem?_append_right (by simp)]
        simp
      · rw [upd_other _ _ e, List.getElem?_append_left (by simp; omega)]
        exact hat j (by omega))
    exact ⟨g', 0, cap', w', hrun, ⟨by omega, hW.le, hW.max, hW.row⟩, ⟨hg.os, hg.tape, hg.output, hg.size, fun k hk _ => hg.block k hk (by simp)⟩, .inr hb'⟩

theorem Mp.kept' {w w' : World} {mb lo l : Nat} {K : Nat → Int} {B : Nat → Nat} {D : DataW Unit} {row : Option Nat} (h : Mp w mb lo l K B D) (hg : w.grownBy w' row) (hr : ∀ g, row = some g → ∃ a, w.heap[g]? = some (.cells a 3)) : Mp w' mb lo l K B D :=
  h.kept hg (fun e => by
    obtain ⟨a, ha⟩ := hr mb e.symm
    obtain ⟨es, cl, hb, _⟩ := h.own
    exact ne_of_obj hb ha (by simp) rfl)

/-- The state while rows grow. -/
theorem St.grown {w w' : World} {base pb ctr mb lo l : Nat} {K : Nat → Int} {B : Nat → Nat} {D : DataW Unit} {row : Option Nat} (h : St w base pb ctr mb lo l K B D) (hg : w.grownBy w' row) (hr : ∀ g, row = some g → (∃ a, w.heap[g]? = some (.cells a 3)) ∧ g ≠ ctr) : St w' base pb ctr mb lo l K B D := by
  have hk : ∀ i cs t fr, w.heap[i]? = some (.cells cs t fr) → some i ≠ row → w'.heap[i]? = some (.cells cs t fr) := fun i cs t fr hi hne => (hg.block i (Array.getElem?_eq_some_iff.1 hi).1 hne).trans hi
  refine ⟨h.le, h.bpb, h.bctr, h.bmb, hk pb _ _ _ h.p (fun e => ?_), hk ctr _ _ _ h.cnt (fun e => (hr ctr e.symm).2 rfl), fun j j1 j2 => ⟨(h.ent j j1 j2).1, hk (B j) _ _ _ (h.ent j j1 j2).2 (fun e => ?_)⟩, h.keys, h.rng, h.map.kept' hg (fun g e => (hr g e).1)⟩
  · obtain ⟨a, ha⟩ := (hr pb e.symm).1
    exact ne_of_obj h.p ha (by simp [pO]) rfl
  · obtain ⟨a, ha⟩ := (hr (B j) e.symm).1
    exact ne_of_obj (h.ent j j1 j2).2 ha (by simp [entO]) rfl

theorem St.alloc {w : World} {base pb ctr mb lo l : Nat} {K : Nat → Int} {B : Nat → Nat} {D : DataW Unit} (h : St w base pb ctr mb lo l K B D) (o : Obj) : St (w.alloc o) base pb ctr mb lo l K B D := h.grown (World.grownBy_alloc w o none) (by simp)

theorem wpList_append_win (w : World) {ops : Array Oper} {rest : List Oper} {o : Oper} {a : Act} {Q : Exit → Act → World → Prop} (hgd : o.guard = none) (s x : Operand)
    (ho : o.op = .call { callee := .builtin .append, args := #[s, x], argTypes := #[43, 43] })
    (base g off n cap : Nat) (f : Nat → Int) (hs : a.eval s = .slice (some ⟨g, off, none⟩) n cap) (hW : Win w base g off n cap f)
    (xb : Nat) (y : Int) (hx : a.eval x = .slice (some ⟨xb, 0, none⟩) 1 1) (hxb : w.heap[xb]? = some (.cells #[.int .i64 y] 3)) (hn : n ≤ 100000) (hbase : base ≤ w.heap.size)
    (h : ∀ g' off' cap' w', Win w' base g' off' (n + 1) cap' (upd f n y) → w.grownBy w' (some g) → (g' = g ∨ w.heap.size ≤ g') → wpList Yba.prog ops Q rest (a.put o.dst (.slice (some ⟨g', off', none⟩) (n + 1) cap')) w') :
    wpList Yba.prog ops Q (o :: rest) a w := by
  refine wpList_plain hgd fun K hK => ?_
  obtain ⟨g', off', cap', w', hr, h2, h3, h4⟩ := run_append_win hW xb y hxb hn hbase o.type
  unfold Oper.wp execOp
  simp only [ho, resolve, invoke, builtin, Sem.run_bind, Sem.run_pure, Result.andThen_ok, List.map_toArray, List.map_cons, List.map_nil, hs, hx, hr]
  exact hK _ _ (h g' off' cap' w' h2 h3 h4)

theorem wpList_append_first (w : World) {ops : Array Oper} {rest : List Oper} {o : Oper} {a : Act} {Q : Exit → Act → World → Prop} (hgd : o.guard = none) (s x : Operand)
    (ho : o.op = .call { callee := .builtin .append, args := #[s, x], argTypes := #[43, 43] })
    (base : Nat) (hs : a.eval s = .slice none 0 0)
    (xb : Nat) (y : Int) (hx : a.eval x = .slice (some ⟨xb, 0, none⟩) 1 1) (hxb : w.heap[xb]? = some (.cells #[.int .i64 y] 3)) (hbase : base ≤ w.heap.size)
    (h : ∀ g' cap' w', Win w' base g' 0 1 cap' (fun _ => y) → w.grownBy w' none → w.heap.size = g' → wpList Yba.prog ops Q rest (a.put o.dst (.slice (some ⟨g', 0, none⟩) 1 cap')) w') :
    wpList Yba.prog ops Q (o :: rest) a w := by
  refine wpList_plain hgd fun K hK => ?_
  obtain ⟨i, hi, hz0, hz1, hz2⟩ := info_parts info3
  have hnews : ∀ j u, [Value.int .i64 y][j]? = some u → w.cell? ((⟨xb, 0, none⟩ : Addr).add j) = some u := World.news_of_block hxb
  obtain ⟨g, cap, w', hr, h2, h3, h4, _⟩ := run_append_lies (P := Yba.prog) w 43 o.type base 3 i (.int .i64 0) 1 8 Yba.underlying43 hi hz0 hz1 hz2 rfl (by decide) (.slice none 0 0) 0 [] (World.ownsRow_nil w base 3 1) ⟨xb, 0, none⟩ 1 1 [.int .i64 y] (by simp) hnews (by simp [Value.oneCell']) (by omega) (by unfold maxLen; omega) (by omega) hbase _ rfl
  unfold Oper.wp execOp
  simp only [ho, resolve, invoke, builtin, Sem.run_bind, Sem.run_pure, Result.andThen_ok, List.map_toArray, List.map_cons, List.map_nil, hs, hx, hr]
  refine hK _ _ (h g cap w' (Win.of_owns h2 fun j hj => ?_) h3 ?_)
  · obtain rfl : j = 0 := by omega
    rfl
  · rcases h4 with h4 | h4
    · simp [Value.ownBlock] at h4
    · exact h4.symm

end Go.Proofs.Ybulkbeom.pendB
