/-
  pending[int, int]: ITS STATE, AND remove, BY THEIR CONTRACTS.
-/
import Derived.Test.YbulkbeomChecked
import Derived.WalkKit
import Derived.WalkSpells
import Derived.Below
import Derived.Laws.Rows
import Derived.Maps.OwnSet
import Derived.RegionTactic
namespace Go.Proofs.Ybulkbeom.pendB
open Go.RowKit
set_option linter.unusedVariables false

/-- How an element of the map reads. -/
def ptrElem : Value → Option (DataW Unit × List MemPlace)
  | .pointer (some ⟨b, 0, none⟩) => some (.lit (.int .i64 b), [])
  | .pointer none => some (.nil, [])
  | _ => none
theorem ptrElem_mk (b : Nat) : ptrElem (.pointer (some ⟨b, 0, none⟩)) = some (.lit (.int .i64 b), []) := rfl
theorem ptrElem_nil : ptrElem (.pointer none) = some (.nil, []) := rfl
theorem ptrElem_inv {v : Value} {b : Nat} {ps : List MemPlace} (h : ptrElem v = some (.lit (.int .i64 b), ps)) : v = .pointer (some ⟨b, 0, none⟩) := by
  unfold ptrElem at h
  split at h
  · simp only [Option.some.injEq, Prod.mk.injEq, DataW.lit.injEq, Lit.int.injEq, true_and] at h
    have : (_ : Int) = b := h.1
    congr 3
    omega
  · simp at h
  · simp at h
theorem ptrElem_inv_nil {v : Value} {ps : List MemPlace} (h : ptrElem v = some (.nil, ps)) : v = .pointer none := by
  unfold ptrElem at h
  split at h
  · simp at h
  · rfl
  · simp at h

theorem law : Maps.Keyed Yba.prog 3 := Maps.int_keyed Yba.underlying3
theorem zero39 (w : World) : (zeroValue 39).run Yba.prog w = .ok (.pointer none) w := by kernel_rfl
theorem wf_key {k : Int} (h0 : 0 ≤ k) (h1 : k ≤ 65535) : (Lit.int .i64 k).wf = true := WalkArith.wf_i64 (by omega)
theorem key_of {k : Int} (h0 : 0 ≤ k) (h1 : k ≤ 65535) : keyOf Yba.prog 3 (.int .i64 k) = some (.int .i64 k) := Maps.keyOf_int_mk Yba.underlying3 (wf_key h0 h1)

/-- The map. -/
structure Mp (w : World) (mb lo l : Nat) (K : Nat → Int) (B : Nat → Nat) (D : DataW Unit) : Prop where
  own : w.ownsMap Yba.prog 3 ptrElem mb (l + 1) D
  size : Maps.size D = l + 1 - lo
  hit : ∀ j, lo ≤ j → j ≤ l → D.atKey (.int .i64 (K j)) .nil = .lit (.int .i64 (B j)) ∧ Maps.has D (.int .i64 (K j)) = true
  miss : ∀ k, (∀ j, lo ≤ j → j ≤ l → K j ≠ k) → Maps.has D (.int .i64 k) = false

theorem Mp.look_hit {w : World} {mb lo l : Nat} {K : Nat → Int} {B : Nat → Nat} {D : DataW Unit} (h : Mp w mb lo l K B D) {j : Nat} (h1 : lo ≤ j) (h2 : j ≤ l) (k0 : 0 ≤ K j) (k1 : K j ≤ 65535) :
    (Instr.lookup 38 (.map (some mb)) (.int .i64 (K j)) true).run Yba.prog w = .ok (.tuple #[.pointer (some ⟨B j, 0, none⟩), .bool true]) w := by
  obtain ⟨v, ps, hr, hv⟩ := h.own.look_ok law Yba.underlying38 (zero39 w) ptrElem_nil (key_of k0 k1)
  rw [(h.hit j h1 h2).1] at hv
  rw [(h.hit j h1 h2).2] at hr
  rw [ptrElem_inv hv] at hr
  exact hr
theorem Mp.look_plain {w : World} {mb lo l : Nat} {K : Nat → Int} {B : Nat → Nat} {D : DataW Unit} (h : Mp w mb lo l K B D) {j : Nat} (h1 : lo ≤ j) (h2 : j ≤ l) (k0 : 0 ≤ K j) (k1 : K j ≤ 65535) :
    (Instr.lookup 38 (.map (some mb)) (.int .i64 (K j)) false).run Yba.prog w = .ok (.pointer (some ⟨B j, 0, none⟩)) w := by
  obtain ⟨v, ps, hr, hv⟩ := h.own.lookup law Yba.underlying38 (zero39 w) ptrElem_nil (key_of k0 k1)
  rw [(h.hit j h1 h2).1] at hv
  rw [ptrElem_inv hv] at hr
  exact hr
theorem Mp.look_miss {w : World} {mb lo l : Nat} {K : Nat → Int} {B : Nat → Nat} {D : DataW Unit} (h : Mp w mb lo l K B D) {k : Int} (hm : ∀ j, lo ≤ j → j ≤ l → K j ≠ k) (k0 : 0 ≤ k) (k1 : k ≤ 65535) :
    (Instr.lookup 38 (.map (some mb)) (.int .i64 k) true).run Yba.prog w = .ok (.tuple #[.pointer none, .bool false]) w := by
  obtain ⟨v, ps, hr, hv⟩ := h.own.look_ok law Yba.underlying38 (zero39 w) ptrElem_nil (key_of k0 k1)
  rw [Maps.atKey_of_not_has (h.miss k hm)] at hv
  rw [h.miss k hm, ptrElem_inv_nil hv] at hr
  exact hr
theorem Mp.len {w : World} {mb lo l : Nat} {K : Nat → Int} {B : Nat → Nat} {D : DataW Unit} (h : Mp w mb lo l K B D) (ty : TypeId) :
    (Builtin.len_ #[38] ty #[.map (some mb)]).run Yba.prog w = .ok (.int .i64 ((l + 1 - lo : Nat) : Int)) w := by
  rw [h.own.len Yba.underlying38 ty, h.size]
theorem Mp.kept {w w' : World} {mb lo l : Nat} {K : Nat → Int} {B : Nat → Nat} {D : DataW Unit} {row : Option Nat} (h : Mp w mb lo l K B D) (hg : w.grownBy w' row) (hne : some mb ≠ row) : Mp w' mb lo l K B D := ⟨h.own.kept hg hne, h.size, h.hit, h.miss⟩
theorem isKey (k : Int) : WideAt.IsKeyLit (.int .i64 k) := by simp [WideAt.IsKeyLit]

/-- The oldest struck. -/
theorem Mp.drop {w w' : World} {mb lo l : Nat} {K : Nat → Int} {B : Nat → Nat} {D : DataW Unit} (h : Mp w mb lo l K B D) (hl : lo ≤ l) (hk : ∀ i j, lo ≤ i → i ≤ l → lo ≤ j → j ≤ l → K i = K j → i = j)
    (ho : w'.ownsMap Yba.prog 3 ptrElem mb (l + 1) (D.del (.int .i64 (K lo)))) : Mp w' mb (lo + 1) l K B (D.del (.int .i64 (K lo))) := by
  refine ⟨ho, ?_, fun j h1 h2 => ?_, fun k hm => ?_⟩
  · have := Maps.size_del (k := .int .i64 (K lo)) (h.own.tidy law)
    rw [(h.hit lo (Nat.le_refl _) hl).2, h.size] at this
    simp at this
    omega
  · have hne : (Lit.int .i64 (K j)) ≠ .int .i64 (K lo) := fun e => by
      have := hk j lo (by omega) h2 (Nat.le_refl _) hl (by simpa using e)
      omega
    rw [Maps.atKey_del_other hne, Maps.has_del_other hne]
    exact h.hit j (by omega) h2
  · by_cases e : k = K lo
    · subst e; exact Maps.has_del_same
    · rw [Maps.has_del_other (by simpa using e)]
      refine h.miss k fun j h1 h2 => ?_
      by_cases e2 : j = lo
      · subst e2; exact fun e3 => e e3.symm
      · exact hm j (by omega) h2

/-- A function turned at one place. -/
def upd {α : Type} (f : Nat → α) (i : Nat) (x : α) : Nat → α := fun j => if j = i then x else f j
theorem upd_same {α : Type} (f : Nat → α) (i : Nat) (x : α) : upd f i x i = x := by simp [upd]
theorem upd_other {α : Type} (f : Nat → α) {i j : Nat} (x : α) (h : j ≠ i) : upd f i x j = f j := by simp [upd, h]

/-- A new one stored. -/
theorem Mp.put {w' : World} {mb lo l : Nat} {K : Nat → Int} {B : Nat → Nat} {D : DataW Unit} {w : World} (h : Mp w mb lo l K B D) (hl : lo ≤ l) {k : Int} (hm : ∀ j, lo ≤ j → j ≤ l → K j ≠ k) (nb : Nat)
    (ho : w'.ownsMap Yba.prog 3 ptrElem mb (l + 1 + 1) (D.put (.int .i64 k) (.lit (.int .i64 nb)))) : Mp w' mb lo (l + 1) (upd K (l + 1) k) (upd B (l + 1) nb) (D.put (.int .i64 k) (.lit (.int .i64 nb))) := by
  refine ⟨ho, ?_, fun j h1 h2 => ?_, fun k' hm' => ?_⟩
  · rw [Maps.size_put (h.own.tidy law), h.miss k hm, h.size]
    simp
    omega
  · by_cases e : j = l + 1
    · subst e
      rw [upd_same, upd_same]
      exact ⟨Maps.atKey_put_same h.own.isMap (isKey _) _ _, Maps.has_put_same h.own.isMap (isKey _) _⟩
    · rw [upd_other _ _ e, upd_other _ _ e]
      have hne : (Lit.int .i64 (K j)) ≠ .int .i64 k := fun e' => hm j h1 (by omega) (by simpa using e')
      rw [Maps.atKey_put_other hne, Maps.has_put_other hne]
      exact h.hit j h1 (by omega)
  · have hk : k' ≠ k := fun e => hm' (l + 1) (by omega) (Nat.le_refl _) (by rw [upd_same, e])
    rw [Maps.has_put_other (by simpa using hk)]
    exact h.miss k' fun j h1 h2 => by have := hm' j h1 (by omega); rwa [upd_other _ _ (by omega)] at this

/-- The first one stored. -/
theorem Mp.first {w' : World} {mb : Nat} {k : Int} {K : Nat → Int} {B : Nat → Nat} {nb : Nat} (hK : K 0 = k) (hB : B 0 = nb) (ho : w'.ownsMap Yba.prog 3 ptrElem mb 1 ((DataW.map []).put (.int .i64 k) (.lit (.int .i64 nb)))) :
    Mp w' mb 0 0 K B ((DataW.map []).put (.int .i64 k) (.lit (.int .i64 nb))) := by
  refine ⟨ho, ?_, fun j h1 h2 => ?_, fun k' hm' => ?_⟩
  · rw [Maps.size_put Maps.tidy_empty]; rfl
  · obtain rfl : j = 0 := by omega
    rw [hK, hB]
    exact ⟨Maps.atKey_put_same Maps.isMap_empty (isKey _) _ _, Maps.has_put_same Maps.isMap_empty (isKey _) _⟩
  · have hk : k' ≠ k := fun e => hm' 0 (by omega) (Nat.le_refl _) (by rw [hK, e])
    rw [Maps.has_put_other (by simpa using hk)]
    rfl

def entO (k : Int) (v : Nat) (p n : Option Addr) : Obj := .cells #[.int .i64 k, .int .i64 v, .pointer p, .pointer n] 46
def pO (m o n : Nat) : Obj := .cells #[.map (some m), .pointer (some ⟨o, 0, none⟩), .pointer (some ⟨n, 0, none⟩)] 41
def prevOf (lo : Nat) (B : Nat → Nat) (j : Nat) : Option Addr := if j = lo then none else some ⟨B (j - 1), 0, none⟩
def nextOf (l : Nat) (B : Nat → Nat) (j : Nat) : Option Addr := if j = l then none else some ⟨B (j + 1), 0, none⟩

/-- The state: the live entries are lo .. l; the entry j has the value j + 1. -/
structure St (w : World) (base pb ctr mb lo l : Nat) (K : Nat → Int) (B : Nat → Nat) (D : DataW Unit) : Prop where
  le : lo ≤ l
  bpb : base ≤ pb
  bctr : base ≤ ctr
  bmb : base ≤ mb
  p : w.heap[pb]? = some (pO mb (B lo) (B l))
  cnt : w.heap[ctr]? = some (.cells #[.int .i64 ((l + 1 : Nat) : Int)] 3)
  ent : ∀ j, lo ≤ j → j ≤ l → base ≤ B j ∧ w.heap[B j]? = some (entO (K j) (j + 1) (prevOf lo B j) (nextOf l B j))
  keys : ∀ i j, lo ≤ i → i ≤ l → lo ≤ j → j ≤ l → K i = K j → i = j
  rng : ∀ j, lo ≤ j → j ≤ l → 0 ≤ K j ∧ K j ≤ 65535
  map : Mp w mb lo l K B D

/-- What the state's calls leave alone. -/
structure Fr (base ctr : Nat) (w w' : World) : Prop where
  below : Below base w w'
  rows : ∀ i a, i ≠ ctr → w.heap[i]? = some (.cells a 3) → w'.heap[i]? = some (.cells a 3)

theorem ne_of_obj {w : World} {i j : Nat} {x y : Obj} (h : w.heap[i]? = some x) (k : w.heap[j]? = some y) (hne : x ≠ y) : i ≠ j := fun e => by
  subst e
  rw [h] at k
  exact hne (Option.some.inj k)

theorem turned_obj {w w' : World} {mb i : Nat} {cs : Array Value} {t : TypeId} {fr : Nat × Nat} (ht : w.mapTurned w' mb) (h : w.heap[i]? = some (.cells cs t fr)) : w'.heap[i]? = some (.cells cs t fr) := by
  have hlt : i < w.heap.size := (Array.getElem?_eq_some_iff.1 h).1
  have hne : i ≠ mb := by
    obtain ⟨es, cl, _, _, hb, _⟩ := ht
    exact ne_of_obj h hb (by simp)
  rw [ht.grown.block i hlt (by simpa using hne)]
  exact h

end Go.Proofs.Ybulkbeom.pendB
