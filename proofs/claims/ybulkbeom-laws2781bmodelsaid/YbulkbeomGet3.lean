/-
  get AT 256 ENTRIES, AND AT NONE, BY ITS CONTRACTS.
-/
import Derived.Test.YbulkbeomGet2
namespace Go.Proofs.Ybulkbeom.pendB
open Go.RowKit
set_option linter.unusedVariables false

set_option maxRecDepth 100000 in
set_option maxHeartbeats 1600000 in
theorem get_full {w : World} {base pb ctr mb lo l : Nat} {K : Nat → Int} {B : Nat → Nat} {D : DataW Unit} (h : St w base pb ctr mb lo l K B D) (hl : l + 1 - lo = 256) (hc : l ≤ 3000) (k : Int) (hm : ∀ j, lo ≤ j → j ≤ l → K j ≠ k) (k0 : 0 ≤ k) (k1 : k ≤ 65535) :
    Calls Yba.prog 13 #[.pointer (some ⟨pb, 0, none⟩), .int .i64 k, beginV ctr] w fun e w' => e = .returned (.int .i64 ((l + 1 + 1 : Nat) : Int)) ∧ ∃ K' B' D', St w' base pb ctr mb (lo + 1) (l + 1) K' B' D' ∧ Fr base ctr w w' ∧ K' (l + 1) = k ∧ ∀ j, j ≤ l → K' j = K j := by
  have p0 : w.cell? ⟨pb, 0, none⟩ = some (.map (some mb)) := cell_of_row w pb 0 _ _ _ h.p
  have p1 : w.cell? ⟨pb, 1, none⟩ = some (.pointer (some ⟨B lo, 0, none⟩)) := cell_of_row w pb 1 _ _ _ h.p
  have c0 : w.cell? ⟨B lo, 0, none⟩ = some (.int .i64 (K lo)) := cell_of_row w (B lo) 0 _ _ _ (h.ent lo (Nat.le_refl _) h.le).2
  have hlk := h.map.look_miss hm k0 k1
  have hlen := fun ty => h.map.len ty
  have hsm : ((l + 1 - lo : Nat) : Int) = 256 := by omega
  rw [hsm] at hlen
  have hme := map_eq_nil mb w
  have hlt : lo < l := by omega
  clear hsm
  unfold beginV
  go_enter Yba.func13, Yba.ntmps13
  go_wp2_with fail
  refine (remove_oldest h hlt).mono ?_
  rintro e wA ⟨rfl, hA, hF⟩
  clear hlk hlen hme p0 p1 c0
  have hmA : ∀ j, lo + 1 ≤ j → j ≤ l → K j ≠ k := fun j j1 j2 => hm j (by omega) j2
  have p0 : wA.cell? ⟨pb, 0, none⟩ = some (.map (some mb)) := cell_of_row wA pb 0 _ _ _ hA.p
  have p2 : wA.cell? ⟨pb, 2, none⟩ = some (.pointer (some ⟨B l, 0, none⟩)) := cell_of_row wA pb 2 _ _ _ hA.p
  have f2 : wA.frozen? ⟨pb, 2, none⟩ = false := frozen_of_row wA pb 2 _ _ hA.p
  have l3 : wA.cell? ⟨B l, 3, none⟩ = some (.pointer (nextOf l B l)) := cell_of_row wA (B l) 3 _ _ _ (hA.ent l hA.le (Nat.le_refl _)).2
  have g3 : wA.frozen? ⟨B l, 3, none⟩ = false := frozen_of_row wA (B l) 3 _ _ (hA.ent l hA.le (Nat.le_refl _)).2
  have n1 : B l ≠ pb := ne_of_obj (hA.ent l hA.le (Nat.le_refl _)).2 hA.p (by simp [entO, pO])
  have n2 : ctr ≠ pb := ne_of_obj hA.cnt hA.p (by simp [pO])
  have n3 : ctr ≠ B l := ne_of_obj hA.cnt (hA.ent l hA.le (Nat.le_refl _)).2 (by simp [entO])
  have s1 : pb < wA.heap.size := (Array.getElem?_eq_some_iff.1 hA.p).1
  have s2 : ctr < wA.heap.size := (Array.getElem?_eq_some_iff.1 hA.cnt).1
  have s3 : B l < wA.heap.size := (Array.getElem?_eq_some_iff.1 (hA.ent l hA.le (Nat.le_refl _)).2).1
  have q1 : mb ≠ ctr := by obtain ⟨es, cl, hb, _⟩ := hA.map.own; exact ne_of_obj hb hA.cnt (by simp)
  have q2 : mb ≠ B l := by obtain ⟨es, cl, hb, _⟩ := hA.map.own; exact ne_of_obj hb (hA.ent l hA.le (Nat.le_refl _)).2 (by simp [entO])
  have q3 : mb ≠ pb := by obtain ⟨es, cl, hb, _⟩ := hA.map.own; exact ne_of_obj hb hA.p (by simp [pO])
  go_wp2_with fail
  go_region_with (go_at_call 12; refine (begin12 ctr (l + 1) _ ?_ (by omega)).mono ?_; exact hA.cnt; rintro e w1 ⟨rfl, rfl⟩)
  all_goals (go_wp2_with (first | (at_mapUpdate; refine wpList_mapUpdate_in _ rfl _ _ _ 38 rfl 3 39 law Yba.underlying38 ptrElem mb (l + 1) (D.del (.int .i64 (K lo))) rfl (push_own hA.map.own q1 q2 q3) (by unfold maxLen; omega) _ _ _ rfl rfl (key_of k0 k1) _ [] (ptrElem_mk _) ?_; intro w1 hown1 hturn1; have v1 : w1.cell? ⟨wA.heap.size, 1, none⟩ = some (.int .i64 ((l : Int) + 1 + 1)) := cell_of_row w1 wA.heap.size 1 _ _ _ (turned_obj hturn1 push_new))))
  all_goals (go_ret; exact ⟨by go_num, _, _, _, (hA.pushed hmA k0 k1 hown1 hturn1).1, ⟨hF.below.trans (hA.pushed hmA k0 k1 hown1 hturn1).2.below, fun i a hi hr => (hA.pushed hmA k0 k1 hown1 hturn1).2.rows i a hi (hF.rows i a hi hr)⟩, upd_same _ _ _, fun j hj => upd_other _ _ (by omega)⟩)

/-- The world behind the first entry, ahead of the store into the map. -/
def setW (w : World) (ctr pb : Nat) : World :=
  (((w.setCell ⟨pb, 0, none⟩ (.map (some w.heap.size))).setCell ⟨ctr, 0, none⟩ (.int .i64 1)).setCell ⟨pb, 1, none⟩ (.pointer (some ⟨w.heap.size + 1, 0, none⟩))).setCell ⟨pb, 2, none⟩ (.pointer (some ⟨w.heap.size + 1, 0, none⟩))
def firstW (w : World) (ctr pb : Nat) (k : Int) : World :=
  (((setW w ctr pb).alloc (.map #[] 0)).alloc (.cells #[.int .i64 k, .int .i64 1, .pointer none, .pointer none] 46)).drew

theorem setW_size (w : World) (ctr pb : Nat) : (setW w ctr pb).heap.size = w.heap.size := by simp [setW]

theorem first_old {w : World} {ctr pb : Nat} {k : Int} {i : Nat} (hi : i < w.heap.size) : (firstW w ctr pb k).heap[i]? = (setW w ctr pb).heap[i]? := by
  show (World.alloc (World.alloc _ _) _).heap[i]? = _
  have hs := setW_size w ctr pb
  rw [Below.heap_alloc _ _ _ (by simp; omega), Below.heap_alloc _ _ _ (by omega)]

theorem first_other {w : World} {ctr pb : Nat} {k : Int} {i : Nat} (hi : i < w.heap.size) (n1 : i ≠ ctr) (n3 : i ≠ pb) : (firstW w ctr pb k).heap[i]? = w.heap[i]? := by
  rw [first_old hi]
  unfold setW
  rw [heap_setCell_other _ _ _ _ n3, heap_setCell_other _ _ _ _ n3, heap_setCell_other _ _ _ _ n1, heap_setCell_other _ _ _ _ n3]

theorem first_ctr {w : World} {ctr pb : Nat} {k : Int} {c : Value} (h : w.heap[ctr]? = some (.cells #[c] 3)) (n3 : ctr ≠ pb) : (firstW w ctr pb k).heap[ctr]? = some (.cells #[.int .i64 1] 3) := by
  rw [first_old (Array.getElem?_eq_some_iff.1 h).1]
  unfold setW
  rw [heap_setCell_other _ _ _ _ n3, heap_setCell_other _ _ _ _ n3]
  refine heap_setCell_same _ ctr 0 #[c] 3 _ ?_
  rw [heap_setCell_other _ _ _ _ n3]
  exact h

theorem first_p {w : World} {ctr pb : Nat} {k : Int} {a b c : Value} (h : w.heap[pb]? = some (.cells #[a, b, c] 41)) (n3 : pb ≠ ctr) : (firstW w ctr pb k).heap[pb]? = some (.cells #[.map (some w.heap.size), .pointer (some ⟨w.heap.size + 1, 0, none⟩), .pointer (some ⟨w.heap.size + 1, 0, none⟩)] 41) := by
  rw [first_old (Array.getElem?_eq_some_iff.1 h).1]
  unfold setW
  have r1 := heap_setCell_same w pb 0 #[a, b, c] 41 (.map (some w.heap.size)) h
  have r2 : ((w.setCell ⟨pb, 0, none⟩ (.map (some w.heap.size))).setCell ⟨ctr, 0, none⟩ (.int .i64 1)).heap[pb]? = _ := (heap_setCell_other _ _ _ _ n3).trans r1
  have r3 := heap_setCell_same _ pb 1 _ 41 (.pointer (some ⟨w.heap.size + 1, 0, none⟩)) r2
  exact heap_setCell_same _ pb 2 _ 41 (.pointer (some ⟨w.heap.size + 1, 0, none⟩)) r3

theorem first_new {w : World} {ctr pb : Nat} {k : Int} : (firstW w ctr pb k).heap[w.heap.size + 1]? = some (.cells #[.int .i64 k, .int .i64 1, .pointer none, .pointer none] 46) := by
  have h := heap_alloc_new ((setW w ctr pb).alloc (.map #[] 0)) (.cells #[.int .i64 k, .int .i64 1, .pointer none, .pointer none] 46)
  have hs : ((setW w ctr pb).alloc (.map #[] 0)).heap.size = w.heap.size + 1 := by simp [setW_size]
  rw [hs] at h
  exact h

theorem first_own {w : World} {ctr pb : Nat} {k : Int} : (firstW w ctr pb k).ownsMap Yba.prog 3 ptrElem w.heap.size 0 (.map []) := by
  have h := World.ownsMap_made (H := Unit) (setW w ctr pb) Yba.prog 3 ptrElem
  rw [setW_size] at h
  exact (h.alloc _).drew

theorem first_below {w : World} {ctr pb base : Nat} {k : Int} (hs : base ≤ w.heap.size) (h1 : base ≤ ctr) (h3 : base ≤ pb) : Below base w (firstW w ctr pb k) := by
  have hz := setW_size w ctr pb
  exact (((((((Below.refl base w).setCell h3 _).setCell h1 _).setCell h3 _).setCell h3 _).alloc (by show base ≤ (setW w ctr pb).heap.size; omega) _).alloc (by show base ≤ ((setW w ctr pb).alloc _).heap.size; simp; omega) _).drew

theorem St.first {w w1 : World} {base pb ctr : Nat} (bp : base ≤ pb) (bc : base ≤ ctr) (hp : w.heap[pb]? = some (.cells #[.map none, .pointer none, .pointer none] 41)) (hcn : w.heap[ctr]? = some (.cells #[.int .i64 ((0 : Nat) : Int)] 3)) {k : Int} (k0 : 0 ≤ k) (k1 : k ≤ 65535)
    (ho : w1.ownsMap Yba.prog 3 ptrElem w.heap.size (0 + 1) ((DataW.map []).put (.int .i64 k) (.lit (.int .i64 (w.heap.size + 1 : Nat))))) (ht : (firstW w ctr pb k).mapTurned w1 w.heap.size) :
    St w1 base pb ctr w.heap.size 0 0 (fun _ => k) (fun _ => w.heap.size + 1) ((DataW.map []).put (.int .i64 k) (.lit (.int .i64 (w.heap.size + 1 : Nat)))) ∧ Fr base ctr w w1 := by
  have s1 : pb < w.heap.size := (Array.getElem?_eq_some_iff.1 hp).1
  have n2 : ctr ≠ pb := ne_of_obj hcn hp (by simp)
  refine ⟨⟨Nat.le_refl _, bp, bc, by omega, turned_obj ht (first_p hp n2.symm), turned_obj ht (first_ctr hcn n2), fun j j1 j2 => ?_, fun i j i1 i2 j1 j2 _ => by omega, fun j _ _ => ⟨k0, k1⟩, Mp.first rfl rfl ho⟩, ?_, fun i a hi hr => ?_⟩
  · obtain rfl : j = 0 := by omega
    exact ⟨by omega, turned_obj ht first_new⟩
  · have hb := first_below (w := w) (k := k) (base := base) (by omega) bc bp
    exact hb.grown ht.grown (by have := hb.size; omega) (fun q hq => by cases hq; omega)
  · refine turned_obj ht ?_
    rw [first_other (Array.getElem?_eq_some_iff.1 hr).1 hi (ne_of_obj hr hp (by simp))]
    exact hr

set_option maxRecDepth 100000 in
set_option maxHeartbeats 1600000 in
theorem get_first {w : World} {base pb ctr : Nat} (bp : base ≤ pb) (bc : base ≤ ctr) (hp : w.heap[pb]? = some (.cells #[.map none, .pointer none, .pointer none] 41)) (hcn : w.heap[ctr]? = some (.cells #[.int .i64 ((0 : Nat) : Int)] 3)) (k : Int) (k0 : 0 ≤ k) (k1 : k ≤ 65535) :
    Calls Yba.prog 13 #[.pointer (some ⟨pb, 0, none⟩), .int .i64 k, beginV ctr] w fun e w' => e = .returned (.int .i64 ((0 + 1 : Nat) : Int)) ∧ ∃ mb K' B' D', St w' base pb ctr mb 0 0 K' B' D' ∧ Fr base ctr w w' ∧ K' 0 = k := by
  have p0 : w.cell? ⟨pb, 0, none⟩ = some (.map none) := cell_of_row w pb 0 _ _ _ hp
  have p1 : w.cell? ⟨pb, 1, none⟩ = some (.pointer none) := cell_of_row w pb 1 _ _ _ hp
  have p2 : w.cell? ⟨pb, 2, none⟩ = some (.pointer none) := cell_of_row w pb 2 _ _ _ hp
  have f0 : w.frozen? ⟨pb, 0, none⟩ = false := frozen_of_row w pb 0 _ _ hp
  have f1 : w.frozen? ⟨pb, 1, none⟩ = false := frozen_of_row w pb 1 _ _ hp
  have f2 : w.frozen? ⟨pb, 2, none⟩ = false := frozen_of_row w pb 2 _ _ hp
  have n2 : ctr ≠ pb := ne_of_obj hcn hp (by simp)
  have s1 : pb < w.heap.size := (Array.getElem?_eq_some_iff.1 hp).1
  have s2 : ctr < w.heap.size := (Array.getElem?_eq_some_iff.1 hcn).1
  have hlk := Maps.look_nil (w := w) true law Yba.underlying38 (zero39 w) (key_of k0 k1)
  simp only [if_true] at hlk
  have hme := map_nil_eq w
  have hmm := @run_makeMap Yba.prog
  have hown0 : ((w.setCell ⟨pb, 0, none⟩ (.map (some w.heap.size))).alloc (.map #[] 0)).ownsMap Yba.prog 3 ptrElem w.heap.size 0 (.map []) := by
    have := World.ownsMap_made (H := Unit) (w.setCell ⟨pb, 0, none⟩ (.map (some w.heap.size))) Yba.prog 3 ptrElem
    simpa using this
  have hlen : (Builtin.len_ #[38] 3 #[.map (some w.heap.size)]).run Yba.prog ((w.setCell ⟨pb, 0, none⟩ (.map (some w.heap.size))).alloc (.map #[] 0)) = .ok (.int .i64 0) ((w.setCell ⟨pb, 0, none⟩ (.map (some w.heap.size))).alloc (.map #[] 0)) := hown0.len Yba.underlying38 3
  have hcnA : ((w.setCell ⟨pb, 0, none⟩ (.map (some w.heap.size))).alloc (.map #[] 0)).heap[ctr]? = some (.cells #[.int .i64 ((0 : Nat) : Int)] 3) := by
    rw [Below.heap_alloc _ _ _ (by simpa using s2), heap_setCell_other _ _ _ _ n2]
    exact hcn
  unfold beginV
  go_enter Yba.func13, Yba.ntmps13
  go_wp2_with fail
  clear hlk hlen hme hmm
  go_region_with (go_at_call 12; refine (begin12 ctr 0 _ ?_ (by omega)).mono ?_; exact hcnA; rintro e w1 ⟨rfl, rfl⟩)
  all_goals (go_wp2_with (first | (at_mapUpdate; refine wpList_mapUpdate_in _ rfl _ _ _ 38 rfl 3 39 law Yba.underlying38 ptrElem w.heap.size 0 (.map []) rfl (first_own (ctr := ctr) (pb := pb) (k := k)) (by unfold maxLen; omega) _ _ _ rfl rfl (key_of k0 k1) _ [] (ptrElem_mk _) ?_; intro w1 hown1 hturn1; have v1 : w1.cell? ⟨w.heap.size + 1, 1, none⟩ = some (.int .i64 1) := cell_of_row w1 (w.heap.size + 1) 1 _ _ _ (turned_obj hturn1 (first_new (ctr := ctr) (pb := pb))))))
  all_goals (go_ret; exact ⟨by go_num, _, _, _, _, (St.first bp bc hp hcn k0 k1 hown1 hturn1).1, (St.first bp bc hp hcn k0 k1 hown1 hturn1).2, rfl⟩)

end Go.Proofs.Ybulkbeom.pendB
