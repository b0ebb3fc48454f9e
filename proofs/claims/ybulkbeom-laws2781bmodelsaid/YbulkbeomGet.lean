/-
  begin, remove, get, BY THEIR CONTRACTS.
-/
import Derived.Test.YbulkbeomPend
import Derived.Deep.QuietTactic
namespace Go.Proofs.Ybulkbeom.pendB
open Go.RowKit
set_option linter.unusedVariables false

set_option maxRecDepth 100000 in
theorem begin12 (ctr c : Nat) (w : World) (h : w.heap[ctr]? = some (.cells #[.int .i64 (c : Int)] 3)) (hc : c ≤ 4000) :
    Calls Yba.prog 12 #[.pointer (some ⟨ctr, 0, none⟩)] w fun e w' => e = .returned (.int .i64 ((c + 1 : Nat) : Int)) ∧ w' = w.setCell ⟨ctr, 0, none⟩ (.int .i64 ((c + 1 : Nat) : Int)) := by
  have c0 : w.cell? ⟨ctr, 0, none⟩ = some (.int .i64 (c : Int)) := cell_of_row w ctr 0 _ _ _ h
  have f0 : w.frozen? ⟨ctr, 0, none⟩ = false := frozen_of_row w ctr 0 _ _ h
  go_enter Yba.func12, Yba.ntmps12
  go_wp2_with fail
  go_ret
  exact ⟨by go_num, by go_num⟩

set_option maxRecDepth 100000 in
set_option maxHeartbeats 1600000 in
theorem remove_walk (pb mb b0 b1 o n m : Nat) (k k1 : Int) (hkk : k1 ≠ k) (v v1 : Nat) (nn : Option Addr) (D : DataW Unit) (w : World) (hp : w.heap[pb]? = some (pO mb b0 n)) (hm : w.ownsMap Yba.prog 3 ptrElem mb m D)
    (hlk : (Instr.lookup 38 (.map (some mb)) (.int .i64 k) false).run Yba.prog w = .ok (.pointer (some ⟨b0, 0, none⟩)) w) (hkey : keyOf Yba.prog 3 (.int .i64 k) = some (.int .i64 k))
    (h0 : w.heap[b0]? = some (entO k v none (some ⟨b1, 0, none⟩))) (h1 : w.heap[b1]? = some (entO k1 v1 (some ⟨b0, 0, none⟩) nn)) :
    Calls Yba.prog 17 #[.pointer (some ⟨pb, 0, none⟩), .int .i64 k] w fun e w' => e = .returned (.tuple #[]) ∧ ∃ w1 d, w1.ownsMap Yba.prog 3 ptrElem mb m (D.del (.int .i64 k)) ∧ w.mapTurned w1 mb ∧
      w' = ((w1.setCell ⟨pb, 1, none⟩ (.pointer (some ⟨b1, 0, none⟩))).setCell ⟨b1, 2, none⟩ (.pointer none)).drewN d := by
  have p0 : w.cell? ⟨pb, 0, none⟩ = some (.map (some mb)) := cell_of_row w pb 0 _ _ _ hp
  have n1 : b0 ≠ pb := ne_of_obj h0 hp (by simp [entO, pO])
  have n2 : b1 ≠ pb := ne_of_obj h1 hp (by simp [entO, pO])
  have n3 : b1 ≠ b0 := ne_of_obj h1 h0 (by simp [entO, hkk])
  go_enter Yba.func17, Yba.ntmps17
  go_wp2_with (first | (at_delete; refine wpList_delete_own _ rfl _ _ 38 3 rfl 39 law Yba.underlying38 _ mb m D rfl hm _ _ rfl hkey ?_; intro w1 hown1 hturn1;  have a2 : w1.cell? ⟨b0, 2, none⟩ = some (.pointer none) := cell_of_row w1 b0 2 _ _ _ (turned_obj hturn1 h0);  have a3 : w1.cell? ⟨b0, 3, none⟩ = some (.pointer (some ⟨b1, 0, none⟩)) := cell_of_row w1 b0 3 _ _ _ (turned_obj hturn1 h0);  have a4 : w1.cell? ⟨b1, 2, none⟩ = some (.pointer (some ⟨b0, 0, none⟩)) := cell_of_row w1 b1 2 _ _ _ (turned_obj hturn1 h1);  have a5 : w1.frozen? ⟨b1, 2, none⟩ = false := frozen_of_row w1 b1 2 _ _ (turned_obj hturn1 h1);  have a6 : w1.cell? ⟨pb, 1, none⟩ = some (.pointer (some ⟨b0, 0, none⟩)) := cell_of_row w1 pb 1 _ _ _ (turned_obj hturn1 hp);  have a7 : w1.frozen? ⟨pb, 1, none⟩ = false := frozen_of_row w1 pb 1 _ _ (turned_obj hturn1 hp)))
  clear hlk hkey p0 hm
  go_region
  all_goals (go_end0; exact ⟨rfl, w1, _, hown1, hturn1, rfl⟩)

theorem St.ne {w : World} {base pb ctr mb lo l : Nat} {K : Nat → Int} {B : Nat → Nat} {D : DataW Unit} (h : St w base pb ctr mb lo l K B D) {i j : Nat} (i1 : lo ≤ i) (i2 : i ≤ l) (j1 : lo ≤ j) (j2 : j ≤ l) (hne : i ≠ j) : B i ≠ B j :=
  ne_of_obj (h.ent i i1 i2).2 (h.ent j j1 j2).2 (fun e => hne (h.keys i j i1 i2 j1 j2 (by simp [entO] at e; exact e.1)))

theorem St.removed {w w1 : World} {base pb ctr mb lo l : Nat} {K : Nat → Int} {B : Nat → Nat} {D : DataW Unit} (h : St w base pb ctr mb lo l K B D) (hlt : lo < l) (d : Nat)
    (ho : w1.ownsMap Yba.prog 3 ptrElem mb (l + 1) (D.del (.int .i64 (K lo)))) (ht : w.mapTurned w1 mb) :
    St (((w1.setCell ⟨pb, 1, none⟩ (.pointer (some ⟨B (lo + 1), 0, none⟩))).setCell ⟨B (lo + 1), 2, none⟩ (.pointer none)).drewN d) base pb ctr mb (lo + 1) l K B (D.del (.int .i64 (K lo))) ∧
    Fr base ctr w (((w1.setCell ⟨pb, 1, none⟩ (.pointer (some ⟨B (lo + 1), 0, none⟩))).setCell ⟨B (lo + 1), 2, none⟩ (.pointer none)).drewN d) := by
  obtain ⟨b1b, e1⟩ := h.ent (lo + 1) (by omega) (by omega)
  have npe : ∀ j, lo ≤ j → j ≤ l → B j ≠ pb := fun j j1 j2 => ne_of_obj (h.ent j j1 j2).2 h.p (by simp [entO, pO])
  have hw : ∀ i cs t fr, i ≠ pb → i ≠ B (lo + 1) → w.heap[i]? = some (.cells cs t fr) → (((w1.setCell ⟨pb, 1, none⟩ (.pointer (some ⟨B (lo + 1), 0, none⟩))).setCell ⟨B (lo + 1), 2, none⟩ (.pointer none)).drewN d).heap[i]? = some (.cells cs t fr) := fun i cs t fr n1 n2 hi => by
    show ((w1.setCell ⟨pb, 1, none⟩ (.pointer (some ⟨B (lo + 1), 0, none⟩))).setCell ⟨B (lo + 1), 2, none⟩ (.pointer none)).heap[i]? = _
    rw [heap_setCell_other _ _ _ _ n2, heap_setCell_other _ _ _ _ n1]
    exact turned_obj ht hi
  have nmp : mb ≠ pb := by
    obtain ⟨es, cl, _, _, hb, _⟩ := ht
    exact ne_of_obj hb h.p (by simp [pO])
  have nmb : mb ≠ B (lo + 1) := by
    obtain ⟨es, cl, _, _, hb, _⟩ := ht
    exact ne_of_obj hb e1 (by simp [entO])
  have hp1 := heap_setCell_same w1 pb 1 _ 41 (.pointer (some ⟨B (lo + 1), 0, none⟩)) (turned_obj ht h.p)
  have he1 : (w1.setCell ⟨pb, 1, none⟩ (.pointer (some ⟨B (lo + 1), 0, none⟩))).heap[B (lo + 1)]? = some (entO (K (lo + 1)) (lo + 1 + 1) (prevOf lo B (lo + 1)) (nextOf l B (lo + 1))) := by
    rw [heap_setCell_other _ _ _ _ (npe (lo + 1) (by omega) (by omega))]
    exact turned_obj ht e1
  have he2 := heap_setCell_same _ (B (lo + 1)) 2 _ 46 (.pointer none) he1
  refine ⟨⟨by omega, h.bpb, h.bctr, h.bmb, ?_, ?_, fun j j1 j2 => ⟨(h.ent j (by omega) j2).1, ?_⟩, fun i j i1 i2 j1 j2 => h.keys i j (by omega) i2 (by omega) j2, fun j j1 j2 => h.rng j (by omega) j2, ?_⟩, ?_, fun i a hi hr => ?_⟩
  · show ((w1.setCell ⟨pb, 1, none⟩ (.pointer (some ⟨B (lo + 1), 0, none⟩))).setCell ⟨B (lo + 1), 2, none⟩ (.pointer none)).heap[pb]? = _
    rw [heap_setCell_other _ _ _ _ (fun e => npe (lo + 1) (by omega) (by omega) e.symm)]
    exact hp1
  · exact hw ctr _ _ _ (ne_of_obj h.cnt h.p (by simp [pO])) (ne_of_obj h.cnt e1 (by simp [entO])) h.cnt
  · by_cases e : j = lo + 1
    · subst e
      show ((w1.setCell ⟨pb, 1, none⟩ (.pointer (some ⟨B (lo + 1), 0, none⟩))).setCell ⟨B (lo + 1), 2, none⟩ (.pointer none)).heap[B (lo + 1)]? = _
      rw [he2]
      simp [entO, prevOf]
    · have hq : prevOf (lo + 1) B j = prevOf lo B j := by simp [prevOf, e, show j ≠ lo by omega]
      rw [hq]
      exact hw (B j) _ _ _ (npe j (by omega) j2) (h.ne (by omega) j2 (by omega) (by omega) e) (h.ent j (by omega) j2).2
  · exact h.map.drop (by omega) h.keys ((ho.setCell nmp _).setCell nmb _)
  · have hb : Below base w ((w1.setCell ⟨pb, 1, none⟩ (.pointer (some ⟨B (lo + 1), 0, none⟩))).setCell ⟨B (lo + 1), 2, none⟩ (.pointer none)) :=
      (((Below.refl base w).grown ht.grown (by have := h.bpb; have := (Array.getElem?_eq_some_iff.1 h.p).1; omega) (fun k hk => by cases hk; exact h.bmb)).setCell h.bpb _).setCell b1b _
    exact ⟨hb.os, hb.tape, hb.output, hb.size, hb.block⟩
  · exact hw i _ _ _ (ne_of_obj hr h.p (by simp [pO])) (ne_of_obj hr e1 (by simp [entO])) hr

theorem remove_oldest {w : World} {base pb ctr mb lo l : Nat} {K : Nat → Int} {B : Nat → Nat} {D : DataW Unit} (h : St w base pb ctr mb lo l K B D) (hlt : lo < l) :
    Calls Yba.prog 17 #[.pointer (some ⟨pb, 0, none⟩), .int .i64 (K lo)] w fun e w' => e = .returned (.tuple #[]) ∧ St w' base pb ctr mb (lo + 1) l K B (D.del (.int .i64 (K lo))) ∧ Fr base ctr w w' := by
  obtain ⟨k0, k1⟩ := h.rng lo (Nat.le_refl _) h.le
  have e0 := (h.ent lo (Nat.le_refl _) h.le).2
  have e1 := (h.ent (lo + 1) (by omega) (by omega)).2
  have q0 : prevOf lo B lo = none := by simp [prevOf]
  have q1 : nextOf l B lo = some ⟨B (lo + 1), 0, none⟩ := by simp [nextOf, show lo ≠ l by omega]
  have q2 : prevOf lo B (lo + 1) = some ⟨B lo, 0, none⟩ := by simp [prevOf]
  rw [q0, q1] at e0
  rw [q2] at e1
  refine (remove_walk pb mb (B lo) (B (lo + 1)) 0 (B l) (l + 1) (K lo) (K (lo + 1)) (fun e => by have := h.keys (lo + 1) lo (by omega) (by omega) (Nat.le_refl _) h.le e; omega) (lo + 1) (lo + 1 + 1) _ D w h.p h.map.own (h.map.look_plain (Nat.le_refl _) h.le k0 k1) (key_of k0 k1) e0 e1).mono ?_
  rintro e w' ⟨rfl, w1, d, ho, ht, rfl⟩
  exact ⟨rfl, h.removed hlt d ho ht⟩

end Go.Proofs.Ybulkbeom.pendB
