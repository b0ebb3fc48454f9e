/-
  THE ROW's STEP: 'Rows.LawS2781CWalkSaid', PROVED.
-/
import Derived.Test.YbulkbeomRows
import Derived.Test.YbulkbeomWalk
import Derived.ProofKit
import Derived.OpenShut
import Derived.ChangeOld
import Derived.Below
import Derived.SizedLaws
import Derived.Deep.Slices
import Derived.Lib.SmallJoins
namespace Go.Proofs.Ybulkbeom.walkC
open Go.ChangeShapes Go.WideShapes Go.ChangeAt Go.RowKit

theorem own : ownKnob Yba.prog.godebug = none := by kernel_rfl
theorem laidOut : laidOutB Yba.prog = true := by kernel_rfl
theorem cells66 : Yba.prog.cellsOf 66 = 4 := by kernel_rfl
theorem cells29 : Yba.prog.cellsOf 29 = 1 := by kernel_rfl
theorem cells4 : Yba.prog.cellsOf 4 = 1 := by kernel_rfl
theorem cells22 : Yba.prog.cellsOf 22 = 1 := by kernel_rfl
theorem cells5 : Yba.prog.cellsOf 5 = 1 := by kernel_rfl
theorem bytes5 : Yba.prog.bytesOf 5 = 1 := by kernel_rfl

theorem weightsAll_mem {H : Type} {P : Program} {e : TypeId} : ∀ {l : List (DataW H)} {d : DataW H}, d ∈ l → ∀ n ∈ d.weights P e, n ∈ DataW.weightsAll P e l
  | x :: r, d, hd, n, hn => by
    rcases List.mem_cons.1 hd with rfl | hd
    · simp [DataW.weightsAll, hn]
    · simp [DataW.weightsAll, weightsAll_mem hd n hn]

/-- One element of the argument, opened. -/
theorem open_elem {H : Type} {enc : TypeId × Value → H} {W : World} {b off fuel : Nat} {cs : List Value} {d : DataW H} {ps : List MemPlace} (hcs : W.cells? 0 ⟨b, off, none⟩ 4 = some cs)
    (h : DataW.trod enc Yba.prog W 0 (fun _ => true) true fuel 66 cs = some (d, ps)) (hsz : ∀ n ∈ d.weights Yba.prog 66, n ≤ reachBytes) :
    ∃ e : El, SrcAt W b off e ∧ e.bs.length ≤ 140737488355328 := by
  obtain ⟨y0, y1, y2, y3, n, hx, hl, f0, f1, f2, f3⟩ := Joins.trod_struct4 Yba.underlying66 h
  rw [cells66] at hl
  obtain ⟨_, hc⟩ := World.cells?_some hcs
  match cs, hl with
  | [c0, c1, c2, c3], _ =>
    simp only [cells29, cells4, cells22] at f0 f1 f2 f3
    obtain ⟨num, e0, rfl, _⟩ := DataW.trod_int Yba.underlying29 f0
    obtain ⟨con, e1, rfl⟩ := DataW.trod_bool Yba.underlying4 f1
    obtain ⟨ctx, e2, rfl⟩ := DataW.trod_bool Yba.underlying4 f2
    simp at e0 e1 e2
    subst e0 e1 e2
    have g0 := hc.2 0 (by omega)
    have g1 := hc.2 1 (by omega)
    have g2 := hc.2 2 (by omega)
    have g3 := hc.2 3 (by omega)
    rw [add_plain] at g0 g1 g2 g3
    have r47 := reachBytes_lt
    simp only [Prod.mk.injEq] at hx
    obtain ⟨rfl, _⟩ := hx
    rcases open_ints Yba.underlying22 Yba.underlying5 cells5 f3 with ⟨hcs3, _⟩ | ⟨a, l, c, zs, hcs3, _, hlc, hm, hz, hy, hcell, hwz⟩
    · simp at hcs3
      subst hcs3
      exact ⟨⟨num, con, ctx, true, []⟩, ⟨g0, g1, g2, _, g3, none, 0, rfl, rfl, fun _ => rfl, fun h => absurd rfl h⟩, by simp⟩
    · simp at hcs3
      subst hcs3
      have hz' : zs.length = c := by simpa using hz
      have hlen : (zs.take l).length = l := by simp; omega
      refine ⟨⟨num, con, ctx, false, zs.take l⟩, ⟨g0, g1, g2, _, g3, some a, c, by rw [hlen], rfl, (fun e => by cases e), fun hne => ?_⟩, ?_⟩
      · have h0 : 0 < l := by
          rcases Nat.eq_zero_or_pos l with e | e
          · subst e; simp at hne
          · exact e
        obtain ⟨b', off', spot⟩ := a
        have hspot : spot = none := by simpa [Addr.add] using World.cell?_spot (hcell 0 (by omega))
        subst hspot
        refine ⟨b', off', rfl, Nat.zero_le _, fun i hi => ?_⟩
        have hi' : i < l := by rw [hlen] at hi; exact hi
        rw [← add_plain, hcell i (by omega)]
        simp [List.getD, hi']
      · show (zs.take l).length ≤ 140737488355328
        have hw := hsz (zs.length * 1) (by
          subst hy
          simp [DataW.weights, Yba.underlying66, DataW.weightsEach, Yba.underlying22, bytes5, lits, hz']
          omega)
        rw [hlen]
        omega

theorem open_src {H : Type} {enc : TypeId × Value → H} {W : World} {a : Option Addr} {n cap : Nat} {d : DataW H} {ps : List MemPlace} (h : DataW.Trod enc Yba.prog W 0 (fun _ => true) true 48 (.slice a n cap) d ps)
    (hsz : ∀ x ∈ d.weights Yba.prog 48, x ≤ reachBytes) : (a = none → cap = 0) ∧ ∃ E, Src W a n E := by
  obtain ⟨fuel, hf⟩ := h
  rcases Deep.open_slice Yba.underlying48 hf with ⟨hcs, _⟩ | ⟨x, l, c, m, k, D, Pl, hcs, _, hlc, hm, hmm, hy, hel⟩
  · simp [Value.cells] at hcs
    obtain ⟨rfl, rfl, rfl⟩ := hcs
    exact ⟨fun _ => rfl, fun _ => ⟨0, false, false, true, []⟩, fun _ => rfl, fun j hj => absurd hj (Nat.not_lt_zero _), fun j hj => absurd hj (Nat.not_lt_zero _)⟩
  · simp [Value.cells] at hcs
    obtain ⟨rfl, rfl, rfl⟩ := hcs
    simp only [if_true] at hmm
    subst hmm
    simp only [Prod.mk.injEq] at hy
    obtain ⟨rfl, _⟩ := hy
    refine ⟨(fun e => by cases e), ?_⟩
    have one : ∀ j, j < n → ∃ e : El, (∃ b off, some x = some (⟨b, off, none⟩ : Addr) ∧ SrcAt W b (off + j * 4) e) ∧ e.bs.length ≤ 140737488355328 := fun j hj => by
      obtain ⟨cs', hc', ht'⟩ := hel j (by omega)
      rw [cells66] at hc'
      obtain ⟨b, off, spot⟩ := x
      have hsp : spot = none := by
        obtain ⟨ce, hce, _⟩ := hel 0 (by omega)
        rw [cells66] at hce
        obtain ⟨_, hl4, hc0⟩ := World.cells?_some hce
        have h0 := hc0 0 (by omega)
        match ce, hl4 with
        | [c0, c1, c2, c3], _ => simpa [Addr.add] using World.cell?_spot (show W.cell? _ = some c0 from h0)
      subst hsp
      rw [add_plain] at hc'
      obtain ⟨e, h1, h2⟩ := open_elem hc' ht' (fun y hy => hsz y (by
        simp only [DataW.weights, Yba.underlying48, List.mem_cons, List.mem_append]
        exact .inr (.inl (weightsAll_mem (List.mem_map.2 ⟨j, List.mem_range.2 hj, rfl⟩) y hy))))
      exact ⟨e, ⟨b, off, rfl, h1⟩, h2⟩
    obtain ⟨E, hE⟩ := @Deep.choose_lt El ⟨⟨0, false, false, true, []⟩⟩ n _ one
    exact ⟨E, (fun e => by cases e), fun j hj => (hE j hj).1, fun j hj => (hE j hj).2⟩

set_option maxRecDepth 100000 in
theorem lifted (os : Os) (started : os.Started) (H : Type) (enc : TypeId × Value → H) :
    ReturnsInHanded {} Yba.checked os 6 .any (Rows.lawS2781CWalkSpec.pre6 enc Yba.prog Yba.f6 Rows.lawS2781CWalkRow.domain false) (Rows.lawS2781CWalkSpec.post enc Yba.prog Yba.f6 false true false false) := by
  refine returnsInHanded_of_change_sized (C := Yba.checked) own started (by kernel_rfl) Yba.func6
    (ChangeSpec.witness6 (enc := enc) (C := Yba.checked) false ⟨#[], #[.slice none 0 0], []⟩ 8 (by kernel_rfl) (by kernel_rfl) (by kernel_rfl) (by kernel_rfl)) ?_
  intro W base args ds gs before hval0 hW hcnd hsz _
  have hval : ∀ (j : Nat) t v, Yba.f6.params[j]? = some t → args[j]? = some v → Value.okWide Yba.prog W .any base t v := hval0
  have hW' := hW
  obtain ⟨p, q, hA0, hV, rfl, hfz, hnd⟩ := hW
  have hA : DataW.TrodAll enc Yba.prog W 0 (fun _ => true) true Yba.f6.params.toList args.toList ds p := hA0
  rw [Yba.params6] at hA hval
  obtain ⟨v0, vs0, d0, ds0, p0, q0, hargs, rfl, rfl, h0, r0⟩ := trodAll_cons hA
  obtain ⟨rfl, rfl, rfl⟩ := trodAll_nil r0
  obtain rfl : args = #[v0] := by cases args; simp_all
  obtain ⟨rfl, rfl⟩ := trodVars_none hV
  obtain ⟨a0, n, cap, rfl⟩ := okWide_slice Yba.underlying48 (hval 0 48 v0 rfl rfl)
  have lt0 : ∀ x ∈ p0, x.block < W.heap.size := by obtain ⟨m, hm⟩ := h0; exact DataW.trod_lt m _ _ _ hm
  obtain ⟨hnil, E, hS⟩ := open_src h0 (fun x hx => of_decide_eq_true (List.all_eq_true.1 hsz x (DataW.weights_mem_each (j := 0) (t := 48) rfl rfl x hx)))
  clear hA0 hval0
  have hwalk : Calls Yba.prog 6 #[.slice a0 n cap] W fun e w' => e = .returned (.bool true) ∧ Below W.heap.size W w' := by
    by_cases hn : n ≤ 1024
    · exact walk_some a0 n cap E W hS hnil hn
    · exact walk_wide a0 n cap W (by omega)
  refine hwalk.mono fun e W' ⟨he, bel⟩ => ?_
  subst he
  exact ⟨_, rfl, _, _, _, [], _, [], hW', trodAll_mk1 (shut_bool Yba.underlying4 _), (trodAll_cons_mk (Below.trod laidOut (by kernel_rfl) (of_decide_eq_true (by kernel_rfl)) h0 bel lt0) trodAll_mk0), rfl, bel.frame _, fun h => by cases h⟩

theorem proved : Rows.LawS2781CWalkSaid :=
  OpenClaim.holds_of_wide 6 Yba.f6 rfl rfl rfl rfl rfl rfl rfl ⟨rfl, rfl, rfl, rfl, rfl⟩ rfl rfl rfl rfl rfl (by kernel_rfl) Yba.func6 (by kernel_rfl)
    (of_decide_eq_true (by kernel_rfl)) (by unfold Func.isWrapper; first | (rw [if_pos (by decide +kernel)]; kernel_rfl) | (rw [if_neg (by decide +kernel)]; exact ⟨rfl, rfl⟩))
    (fun os started H enc _ => lifted os started H enc)
#print axioms proved
end Go.Proofs.Ybulkbeom.walkC
