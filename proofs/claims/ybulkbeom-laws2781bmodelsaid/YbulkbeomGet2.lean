/-
  get, BY ITS CONTRACTS.
-/
import Derived.Test.YbulkbeomGet
import Derived.Deep.RegionWith
namespace Go.Proofs.Ybulkbeom.pendB
open Go.RowKit
set_option linter.unusedVariables false

theorem map_eq_nil (mb : Nat) (w : World) : (binOp .eql 38 (.map (some mb)) (.map none)).run Yba.prog w = .ok (.bool false) w := by kernel_rfl
theorem map_nil_eq (w : World) : (binOp .eql 38 (.map none) (.map none)).run Yba.prog w = .ok (.bool true) w := by kernel_rfl

def beginV (ctr : Nat) : Value := .func (.func 12) #[] #[.pointer (some ⟨ctr, 0, none⟩)]

set_option maxRecDepth 100000 in
theorem get_hit {w : World} {base pb ctr mb lo l : Nat} {K : Nat → Int} {B : Nat → Nat} {D : DataW Unit} (h : St w base pb ctr mb lo l K B D) {j : Nat} (j1 : lo ≤ j) (j2 : j ≤ l) (k : Int) (hk : K j = k) :
    Calls Yba.prog 13 #[.pointer (some ⟨pb, 0, none⟩), .int .i64 k, beginV ctr] w fun e w' => e = .returned (.int .i64 ((j + 1 : Nat) : Int)) ∧ w' = w := by
  subst hk
  have p0 : w.cell? ⟨pb, 0, none⟩ = some (.map (some mb)) := cell_of_row w pb 0 _ _ _ h.p
  have hl := h.map.look_hit j1 j2 (h.rng j j1 j2).1 (h.rng j j1 j2).2
  have e1 : w.cell? ⟨B j, 1, none⟩ = some (.int .i64 ((j + 1 : Nat) : Int)) := cell_of_row w (B j) 1 _ _ _ (h.ent j j1 j2).2
  go_enter Yba.func13, Yba.ntmps13
  go_wp2_with fail
  go_ret
  exact ⟨rfl, rfl⟩

/-- The world behind a new entry, ahead of the store into the map. -/
def pushW (w : World) (ctr bl pb : Nat) (k x : Int) : World :=
  ((((w.setCell ⟨ctr, 0, none⟩ (.int .i64 x)).setCell ⟨bl, 3, none⟩ (.pointer (some ⟨w.heap.size, 0, none⟩))).setCell ⟨pb, 2, none⟩ (.pointer (some ⟨w.heap.size, 0, none⟩))).alloc (.cells #[.int .i64 k, .int .i64 x, .pointer (some ⟨bl, 0, none⟩), .pointer none] 46)).drew

theorem push_old {w : World} {ctr bl pb : Nat} {k x : Int} {i : Nat} (hi : i < w.heap.size) :
    (pushW w ctr bl pb k x).heap[i]? = (((w.setCell ⟨ctr, 0, none⟩ (.int .i64 x)).setCell ⟨bl, 3, none⟩ (.pointer (some ⟨w.heap.size, 0, none⟩))).setCell ⟨pb, 2, none⟩ (.pointer (some ⟨w.heap.size, 0, none⟩))).heap[i]? := by
  unfold pushW
  show (World.alloc _ _).heap[i]? = _
  rw [Below.heap_alloc _ _ _ (by simpa using hi)]

theorem push_other {w : World} {ctr bl pb : Nat} {k x : Int} {i : Nat} (hi : i < w.heap.size) (n1 : i ≠ ctr) (n2 : i ≠ bl) (n3 : i ≠ pb) : (pushW w ctr bl pb k x).heap[i]? = w.heap[i]? := by
  rw [push_old hi, heap_setCell_other _ _ _ _ n3, heap_setCell_other _ _ _ _ n2, heap_setCell_other _ _ _ _ n1]

theorem push_new {w : World} {ctr bl pb : Nat} {k x : Int} : (pushW w ctr bl pb k x).heap[w.heap.size]? = some (.cells #[.int .i64 k, .int .i64 x, .pointer (some ⟨bl, 0, none⟩), .pointer none] 46) := by
  unfold pushW
  show (World.alloc _ _).heap[w.heap.size]? = _
  have := heap_alloc_new (((w.setCell ⟨ctr, 0, none⟩ (.int .i64 x)).setCell ⟨bl, 3, none⟩ (.pointer (some ⟨w.heap.size, 0, none⟩))).setCell ⟨pb, 2, none⟩ (.pointer (some ⟨w.heap.size, 0, none⟩))) (.cells #[.int .i64 k, .int .i64 x, .pointer (some ⟨bl, 0, none⟩), .pointer none] 46)
  simpa using this

theorem push_ctr {w : World} {ctr bl pb : Nat} {k x : Int} {c : Value} (h : w.heap[ctr]? = some (.cells #[c] 3)) (n2 : ctr ≠ bl) (n3 : ctr ≠ pb) : (pushW w ctr bl pb k x).heap[ctr]? = some (.cells #[.int .i64 x] 3) := by
  have hi : ctr < w.heap.size := (Array.getElem?_eq_some_iff.1 h).1
  rw [push_old hi, heap_setCell_other _ _ _ _ n3, heap_setCell_other _ _ _ _ n2]
  exact heap_setCell_same w ctr 0 _ 3 _ h

theorem push_last {w : World} {ctr bl pb : Nat} {k x : Int} {a b c d : Value} (h : w.heap[bl]? = some (.cells #[a, b, c, d] 46)) (n2 : bl ≠ ctr) (n3 : bl ≠ pb) : (pushW w ctr bl pb k x).heap[bl]? = some (.cells #[a, b, c, .pointer (some ⟨w.heap.size, 0, none⟩)] 46) := by
  have hi : bl < w.heap.size := (Array.getElem?_eq_some_iff.1 h).1
  rw [push_old hi, heap_setCell_other _ _ _ _ n3]
  refine heap_setCell_same _ bl 3 #[a, b, c, d] 46 _ ?_
  rw [heap_setCell_other _ _ _ _ n2]
  exact h

theorem push_p {w : World} {ctr bl pb : Nat} {k x : Int} {a b c : Value} (h : w.heap[pb]? = some (.cells #[a, b, c] 41)) (n2 : pb ≠ ctr) (n3 : pb ≠ bl) : (pushW w ctr bl pb k x).heap[pb]? = some (.cells #[a, b, .pointer (some ⟨w.heap.size, 0, none⟩)] 41) := by
  have hi : pb < w.heap.size := (Array.getElem?_eq_some_iff.1 h).1
  rw [push_old hi]
  refine heap_setCell_same _ pb 2 #[a, b, c] 41 _ ?_
  rw [heap_setCell_other _ _ _ _ n3, heap_setCell_other _ _ _ _ n2]
  exact h

theorem push_own {w : World} {ctr bl pb mb n : Nat} {k x : Int} {D : DataW Unit} (h : w.ownsMap Yba.prog 3 ptrElem mb n D) (n1 : mb ≠ ctr) (n2 : mb ≠ bl) (n3 : mb ≠ pb) : (pushW w ctr bl pb k x).ownsMap Yba.prog 3 ptrElem mb n D :=
  ((((h.setCell n1 _).setCell n2 _).setCell n3 _).alloc _).drew

theorem push_below {w : World} {ctr bl pb base : Nat} {k x : Int} (hs : base ≤ w.heap.size) (h1 : base ≤ ctr) (h2 : base ≤ bl) (h3 : base ≤ pb) : Below base w (pushW w ctr bl pb k x) :=
  (((((Below.refl base w).setCell h1 _).setCell h2 _).setCell h3 _).alloc (by simpa using hs) _).drew

theorem St.pushed {w w1 : World} {base pb ctr mb lo l : Nat} {K : Nat → Int} {B : Nat → Nat} {D : DataW Unit} (h : St w base pb ctr mb lo l K B D) {k : Int} (hm : ∀ j, lo ≤ j → j ≤ l → K j ≠ k) (k0 : 0 ≤ k) (k1 : k ≤ 65535)
    (ho : w1.ownsMap Yba.prog 3 ptrElem mb (l + 1 + 1) (D.put (.int .i64 k) (.lit (.int .i64 (w.heap.size : Nat))))) (ht : (pushW w ctr (B l) pb k ((l : Int) + 1 + 1)).mapTurned w1 mb) :
    St w1 base pb ctr mb lo (l + 1) (upd K (l + 1) k) (upd B (l + 1) w.heap.size) (D.put (.int .i64 k) (.lit (.int .i64 (w.heap.size : Nat)))) ∧ Fr base ctr w w1 := by
  obtain ⟨bl, el⟩ := h.ent l h.le (Nat.le_refl _)
  have s1 : pb < w.heap.size := (Array.getElem?_eq_some_iff.1 h.p).1
  have s3 : B l < w.heap.size := (Array.getElem?_eq_some_iff.1 el).1
  have n1 : B l ≠ pb := ne_of_obj el h.p (by simp [entO, pO])
  have n2 : ctr ≠ pb := ne_of_obj h.cnt h.p (by simp [pO])
  have n3 : ctr ≠ B l := ne_of_obj h.cnt el (by simp [entO])
  have hle := h.le
  have hx : (l : Int) + 1 + 1 = ((l + 1 + 1 : Nat) : Int) := by omega
  have u0 : upd B (l + 1) w.heap.size (l + 1) = w.heap.size := upd_same _ _ _
  have ul : ∀ j, j ≤ l → upd B (l + 1) w.heap.size j = B j := fun j hj => upd_other _ _ (by omega)
  have uk : ∀ j, j ≤ l → upd K (l + 1) k j = K j := fun j hj => upd_other _ _ (by omega)
  refine ⟨⟨by omega, h.bpb, h.bctr, h.bmb, ?_, ?_, fun j j1 j2 => ?_, fun i j i1 i2 j1 j2 e => ?_, fun j j1 j2 => ?_, h.map.put hle hm _ ho⟩, ?_, fun i a hi hr => ?_⟩
  · rw [u0, ul lo h.le]
    exact turned_obj ht (push_p h.p n2.symm n1.symm)
  · have := turned_obj ht (push_ctr h.cnt n3 n2)
    rw [hx] at this
    exact this
  · by_cases e : j = l + 1
    · subst e
      rw [u0, upd_same]
      have := turned_obj ht push_new
      rw [hx] at this
      refine ⟨by have := h.bpb; omega, ?_⟩
      rw [this]
      simp [entO, prevOf, nextOf, show l + 1 ≠ lo by omega, ul l (Nat.le_refl _)]
    · have hj : j ≤ l := by omega
      rw [ul j hj, uk j hj]
      obtain ⟨bj, ej⟩ := h.ent j j1 hj
      refine ⟨bj, ?_⟩
      have hp : prevOf lo (upd B (l + 1) w.heap.size) j = prevOf lo B j := by
        unfold prevOf
        split
        · rfl
        · rw [ul (j - 1) (by omega)]
      rw [hp]
      by_cases e2 : j = l
      · subst e2
        have hn : nextOf (j + 1) (upd B (j + 1) w.heap.size) j = some ⟨w.heap.size, 0, none⟩ := by simp [nextOf, u0]
        rw [hn]
        exact turned_obj ht (push_last ej n3.symm n1)
      · have hn : nextOf (l + 1) (upd B (l + 1) w.heap.size) j = nextOf l B j := by simp [nextOf, e, e2, ul (j + 1) (by omega)]
        rw [hn]
        refine turned_obj ht ?_
        rw [push_other (Array.getElem?_eq_some_iff.1 ej).1 (ne_of_obj ej h.cnt (by simp [entO])) (h.ne j1 hj h.le (Nat.le_refl _) e2) (ne_of_obj ej h.p (by simp [entO, pO]))]
        exact ej
  · by_cases ei : i = l + 1 <;> by_cases ej : j = l + 1
    · omega
    · subst ei
      rw [upd_same, uk j (by omega)] at e
      exact absurd e.symm (hm j j1 (by omega))
    · subst ej
      rw [upd_same, uk i (by omega)] at e
      exact absurd e (hm i i1 (by omega))
    · rw [uk i (by omega), uk j (by omega)] at e
      exact h.keys i j i1 (by omega) j1 (by omega) e
  · by_cases e : j = l + 1
    · subst e; rw [upd_same]; exact ⟨k0, k1⟩
    · rw [uk j (by omega)]; exact h.rng j j1 (by omega)
  · have hb := push_below (w := w) (k := k) (x := (l : Int) + 1 + 1) (base := base) (by have := h.bpb; omega) h.bctr bl h.bpb
    exact hb.grown ht.grown (by have := h.bpb; have := hb.size; omega) (fun q hq => by cases hq; exact h.bmb)
  · refine turned_obj ht ?_
    rw [push_other (Array.getElem?_eq_some_iff.1 hr).1 hi (ne_of_obj hr el (by simp [entO])) (ne_of_obj hr h.p (by simp [pO]))]
    exact hr

set_option maxRecDepth 100000 in
set_option maxHeartbeats 1600000 in
theorem get_new {w : World} {base pb ctr mb lo l : Nat} {K : Nat → Int} {B : Nat → Nat} {D : DataW Unit} (h : St w base pb ctr mb lo l K B D) (hl : l + 1 - lo < 256) (hc : l ≤ 3000) (k : Int) (hm : ∀ j, lo ≤ j → j ≤ l → K j ≠ k) (k0 : 0 ≤ k) (k1 : k ≤ 65535) :
    Calls Yba.prog 13 #[.pointer (some ⟨pb, 0, none⟩), .int .i64 k, beginV ctr] w fun e w' => e = .returned (.int .i64 ((l + 1 + 1 : Nat) : Int)) ∧ ∃ K' B' D', St w' base pb ctr mb lo (l + 1) K' B' D' ∧ Fr base ctr w w' ∧ K' (l + 1) = k ∧ ∀ j, j ≤ l → K' j = K j := by
  have p0 : w.cell? ⟨pb, 0, none⟩ = some (.map (some mb)) := cell_of_row w pb 0 _ _ _ h.p
  have p2 : w.cell? ⟨pb, 2, none⟩ = some (.pointer (some ⟨B l, 0, none⟩)) := cell_of_row w pb 2 _ _ _ h.p
  have f2 : w.frozen? ⟨pb, 2, none⟩ = false := frozen_of_row w pb 2 _ _ h.p
  have l3 : w.cell? ⟨B l, 3, none⟩ = some (.pointer (nextOf l B l)) := cell_of_row w (B l) 3 _ _ _ (h.ent l h.le (Nat.le_refl _)).2
  have g3 : w.frozen? ⟨B l, 3, none⟩ = false := frozen_of_row w (B l) 3 _ _ (h.ent l h.le (Nat.le_refl _)).2
  have hlk := h.map.look_miss hm k0 k1
  have hlen := fun ty => h.map.len ty
  have hsm : ((l + 1 - lo : Nat) : Int) < 256 := by omega
  generalize ((l + 1 - lo : Nat) : Int) = sz at *
  have n1 : B l ≠ pb := ne_of_obj (h.ent l h.le (Nat.le_refl _)).2 h.p (by simp [entO, pO])
  have n2 : ctr ≠ pb := ne_of_obj h.cnt h.p (by simp [pO])
  have n3 : ctr ≠ B l := ne_of_obj h.cnt (h.ent l h.le (Nat.le_refl _)).2 (by simp [entO])
  have s1 : pb < w.heap.size := (Array.getElem?_eq_some_iff.1 h.p).1
  have s2 : ctr < w.heap.size := (Array.getElem?_eq_some_iff.1 h.cnt).1
  have s3 : B l < w.heap.size := (Array.getElem?_eq_some_iff.1 (h.ent l h.le (Nat.le_refl _)).2).1
  have hme := map_eq_nil mb w
  have q1 : mb ≠ ctr := by obtain ⟨es, cl, hb, _⟩ := h.map.own; exact ne_of_obj hb h.cnt (by simp)
  have q2 : mb ≠ B l := by obtain ⟨es, cl, hb, _⟩ := h.map.own; exact ne_of_obj hb (h.ent l h.le (Nat.le_refl _)).2 (by simp [entO])
  have q3 : mb ≠ pb := by obtain ⟨es, cl, hb, _⟩ := h.map.own; exact ne_of_obj hb h.p (by simp [pO])
  unfold beginV
  go_enter Yba.func13, Yba.ntmps13
  go_wp2_with fail
  clear hlk hlen
  go_region_with (go_at_call 12; refine (begin12 ctr (l + 1) _ ?_ (by omega)).mono ?_; exact h.cnt; rintro e w1 ⟨rfl, rfl⟩)
  all_goals (go_wp2_with (first | (at_mapUpdate; refine wpList_mapUpdate_in _ rfl _ _ _ 38 rfl 3 39 law Yba.underlying38 ptrElem mb (l + 1) D rfl (push_own h.map.own q1 q2 q3) (by unfold maxLen; omega) _ _ _ rfl rfl (key_of k0 k1) _ [] (ptrElem_mk _) ?_; intro w1 hown1 hturn1; have v1 : w1.cell? ⟨w.heap.size, 1, none⟩ = some (.int .i64 ((l : Int) + 1 + 1)) := cell_of_row w1 w.heap.size 1 _ _ _ (turned_obj hturn1 push_new))))
  all_goals (go_ret; exact ⟨by go_num, _, _, _, (h.pushed hm k0 k1 hown1 hturn1).1, (h.pushed hm k0 k1 hown1 hturn1).2, upd_same _ _ _, fun j hj => upd_other _ _ (by omega)⟩)

end Go.Proofs.Ybulkbeom.pendB
