/-
  THE TWO LAWS, WALKED, AND THE ROWS' STEP. 'Rows.LawS2776AModelSaid' and 'Rows.LawS2776AEdgeKindsSaid', PROVED.
-/
import Derived.Test.YbulkbeluRows
import Derived.Test.YbulkbeluCheck
import Derived.ProofKit
import Derived.OpenShut
import Derived.ShutString
import Derived.ChangeOld
import Derived.Below
import Derived.Laws.IdiomArrays
namespace Go.Proofs.Ybulkbelu
open Go.ChangeShapes Go.WideShapes Go.ChangeAt Go.RowKit

theorem own : ownKnob Yba.prog.godebug = none := by kernel_rfl
theorem laidOut : laidOutB Yba.prog = true := by kernel_rfl
theorem cells23 : Yba.prog.cellsOf 23 = 4 := by kernel_rfl
theorem cells22 : Yba.prog.cellsOf 22 = 1 := by kernel_rfl
theorem cells34 : Yba.prog.cellsOf 34 = 1 := by kernel_rfl
theorem cells5 : Yba.prog.cellsOf 5 = 1 := by kernel_rfl

/-- What is known of the three slices of a start. -/
structure Ins (w : World) (sa ua da : Option Addr) (sl sc ul uc dl dc : Nat) : Prop where
  s : ∃ xs : List Int, xs.length = sl ∧ Rd .u16 w sa sc xs
  u : ∃ ys : List Int, ys.length = ul ∧ Rd .u16 w ua uc ys
  d : 2 ≤ dl → ∃ d0 d1, Bytes2 w w.heap.size da d0 d1

theorem check_all (acc : Bool) (s0 s1 s2 s3 u : Int) (sa ua da : Option Addr) (sl sc ul uc dl dc : Nat) (k : Int) (w : World) (h : Ins w sa ua da sl sc ul uc dl dc) (k0 : 0 ≤ k) (k1 : k ≤ 255) :
    Calls Yba.prog 5 #[.bool acc, .agg #[.int .u64 s0, .int .u64 s1, .int .u64 s2, .int .u64 s3], .int .u64 u, .slice sa sl sc, .slice ua ul uc, .int .u8 k, .slice da dl dc] w fun e w' => e = .returned (.bool true) ∧ Below w.heap.size w w' := by
  by_cases hw : 1024 < sl ∨ 1024 < ul
  · exact check_wide acc s0 s1 s2 s3 u sa ua da sl sc ul uc dl dc k w hw
  · obtain ⟨xs, rfl, rx⟩ := h.s
    obtain ⟨ys, rfl, ry⟩ := h.u
    have hd : ∃ d0 d1, 2 ≤ dl → Bytes2 w w.heap.size da d0 d1 := by
      by_cases h2 : 2 ≤ dl
      · obtain ⟨d0, d1, hB⟩ := h.d h2
        exact ⟨d0, d1, fun _ => hB⟩
      · exact ⟨0, 0, fun h => absurd h h2⟩
    obtain ⟨d0, d1, hB⟩ := hd
    exact check_some acc s0 s1 s2 s3 u sa ua da xs ys sc uc dl dc k d0 d1 w (by omega) (by omega) rx ry k0 k1 hB

theorem Ins.alloc {w : World} {sa ua da : Option Addr} {sl sc ul uc dl dc : Nat} (h : Ins w sa ua da sl sc ul uc dl dc) (o : Obj) : Ins (w.alloc o) sa ua da sl sc ul uc dl dc := by
  obtain ⟨⟨xs, ex, rx⟩, ⟨ys, ey, ry⟩, hd⟩ := h
  have hb : Below w.heap.size w (w.alloc o) := (Below.refl _ _).alloc (Nat.le_refl _) o
  refine ⟨⟨xs, ex, rx.below hb⟩, ⟨ys, ey, ry.below hb⟩, fun h2 => ?_⟩
  obtain ⟨d0, d1, b, off, e, hl, h0, h1, r⟩ := hd h2
  exact ⟨d0, d1, b, off, e, by simp; omega, (hb.cell hl).trans h0, (hb.cell hl).trans h1, r⟩

theorem Ins.drew {w : World} {sa ua da : Option Addr} {sl sc ul uc dl dc : Nat} (h : Ins w sa ua da sl sc ul uc dl dc) : Ins w.drew sa ua da sl sc ul uc dl dc := by
  obtain ⟨⟨xs, ex, rx⟩, ⟨ys, ey, ry⟩, hd⟩ := h
  have hb : Below w.heap.size w w.drew := (Below.refl _ _).drew
  refine ⟨⟨xs, ex, rx.below hb⟩, ⟨ys, ey, ry.below hb⟩, fun h2 => ?_⟩
  obtain ⟨d0, d1, b, off, e, hl, h0, h1, r⟩ := hd h2
  exact ⟨d0, d1, b, off, e, hl, (hb.cell hl).trans h0, (hb.cell hl).trans h1, r⟩

set_option maxRecDepth 100000 in
theorem model_walk (acc : Bool) (s0 s1 s2 s3 u : Int) (sa ua da : Option Addr) (sl sc ul uc dl dc : Nat) (k : Int) (w : World) (h : Ins w sa ua da sl sc ul uc dl dc) (k0 : 0 ≤ k) (k1 : k ≤ 255) :
    Calls Yba.prog 3 #[.bool acc, .agg #[.int .u64 s0, .int .u64 s1, .int .u64 s2, .int .u64 s3], .int .u64 u, .slice sa sl sc, .slice ua ul uc, .int .u8 k, .slice da dl dc] w fun e w' => e = .returned (.bool true) ∧ Below w.heap.size w w' := by
  have hI := h.alloc (boxO s0 s1 s2 s3)
  go_enter Yba.func3, Yba.ntmps3
  go_wp2_with fail
  refine (check_all acc s0 s1 s2 s3 u sa ua da sl sc ul uc dl dc k _ hI k0 k1).mono ?_
  rintro e w1 ⟨rfl, hb⟩
  go_wp2_with fail
  go_ret
  exact ⟨rfl, ((Below.refl _ _).alloc (Nat.le_refl _) _).trans (hb.mono (by simp))⟩

set_option maxRecDepth 100000 in
theorem edge_walk (acc : Bool) (s0 s1 s2 s3 u : Int) (sa ua da : Option Addr) (sl sc ul uc dl dc : Nat) (k : Int) (w : World) (h : Ins w sa ua da sl sc ul uc dl dc) (k0 : 0 ≤ k) (k1 : k ≤ 255) :
    Calls Yba.prog 4 #[.bool acc, .agg #[.int .u64 s0, .int .u64 s1, .int .u64 s2, .int .u64 s3], .int .u64 u, .slice sa sl sc, .slice ua ul uc, .int .u8 k, .slice da dl dc] w fun e w' => e = .returned (.bool true) ∧ Below w.heap.size w w' := by
  have hI := h.alloc (boxO s0 s1 s2 s3)
  have hD := hI.drew
  go_enter Yba.func4, Yba.ntmps4
  go_wp2_with fail
  go_region_with (first
    | (go_at_call 6; refine (kind_any k _ k0 k1).mono ?_; rintro e w' ⟨⟨kk, rfl, kk0, kk1⟩, rfl⟩)
    | (go_at_call 5; refine (check_all acc s0 s1 s2 s3 u sa ua da sl sc ul uc dl dc kk _ ?_ kk0 kk1).mono ?_; exact hD; rintro e w1 ⟨rfl, hb⟩))
  all_goals (go_wp2_with fail; go_ret; exact ⟨rfl, ((Below.refl _ _).alloc (Nat.le_refl _) _).drew.trans (hb.mono (by simp))⟩)

theorem list4 {α : Type} (l : List α) (h : (⟨l⟩ : Array α).size = 4) : ∃ a b c d, l = [a, b, c, d] := by
  match l, h with
  | [a, b, c, d], _ => exact ⟨a, b, c, d, rfl⟩

theorem open_words {H : Type} {enc : TypeId × Value → H} {W : World} {base : Nat} {v : Value} {d : DataW H} {ps : List MemPlace} (hv : Value.okWide Yba.prog W .any base 23 v) (h : DataW.Trod enc Yba.prog W 0 (fun _ => true) true 23 v d ps) :
    ∃ s0 s1 s2 s3, v = .agg #[.int .u64 s0, .int .u64 s1, .int .u64 s2, .int .u64 s3] ∧ ps = [] := by
  obtain ⟨cs, rfl, hsz, _⟩ : ∃ cs, v = .agg cs ∧ cs.size = Yba.prog.cellsOf 23 ∧ Row.okWide Yba.prog W .any base 23 cs := by
    simpa [Value.okWide, Yba.underlying23] using hv
  rw [cells23] at hsz
  obtain ⟨l⟩ := cs
  obtain ⟨c0, c1, c2, c3, rfl⟩ := list4 l hsz
  obtain ⟨fuel, hf⟩ := h
  obtain ⟨y0, y1, y2, y3, m, hx, hy0, hy1, hy2, hy3⟩ := trod_array4 Yba.underlying23 cells22 hf
  obtain ⟨x0, e0, rfl, w0⟩ := DataW.trod_int Yba.underlying22 hy0
  obtain ⟨x1, e1, rfl, w1⟩ := DataW.trod_int Yba.underlying22 hy1
  obtain ⟨x2, e2, rfl, w2⟩ := DataW.trod_int Yba.underlying22 hy2
  obtain ⟨x3, e3, rfl, w3⟩ := DataW.trod_int Yba.underlying22 hy3
  simp at e0 e1 e2 e3
  subst e0 e1 e2 e3
  simp only [Prod.mk.injEq] at hx
  exact ⟨x0, x1, x2, x3, rfl, by simpa using hx.2⟩

theorem rd_of_ints {H : Type} {enc : TypeId × Value → H} {W : World} {a : Option Addr} {l c : Nat} {d : DataW H} {ps : List MemPlace} (h : DataW.Trod enc Yba.prog W 0 (fun _ => true) true 24 (.slice a l c) d ps) :
    ∃ xs : List Int, xs.length = l ∧ Rd .u16 W a c xs := by
  obtain ⟨fuel, hf⟩ := h
  rcases open_ints Yba.underlying24 Yba.underlying34 cells34 hf with ⟨hcs, _⟩ | ⟨x, l', c', zs, hcs, _, hl, hm, hz, _, hcell, hwz⟩
  · simp [Value.cells] at hcs
    obtain ⟨rfl, rfl, rfl⟩ := hcs
    exact ⟨[], rfl, fun _ => ⟨rfl, rfl⟩, fun h => absurd rfl h⟩
  · simp [Value.cells] at hcs
    obtain ⟨rfl, rfl, rfl⟩ := hcs
    have hz' : zs.length = c := by simpa using hz
    have hlen : (zs.take l).length = l := by simp; omega
    refine ⟨zs.take l, hlen, (fun e => by cases e), fun hne => ?_⟩
    have h0 : 0 < l := by
      rcases Nat.eq_zero_or_pos l with e | e
      · subst e; simp at hne
      · exact e
    obtain ⟨b, off, spot⟩ := x
    have hspot : spot = none := by simpa [Addr.add] using World.cell?_spot (hcell 0 (by omega))
    subst hspot
    refine ⟨b, off, rfl, fun i hi => ?_⟩
    have hi' : i < zs.length := by omega
    rw [← add_plain, hcell i hi']
    simp [List.getD, show i < l by omega]

theorem bytes_of_ints {H : Type} {enc : TypeId × Value → H} {W : World} {a : Option Addr} {l c : Nat} {d : DataW H} {ps : List MemPlace} (h : DataW.Trod enc Yba.prog W 0 (fun _ => true) true 25 (.slice a l c) d ps) (h2 : 2 ≤ l) :
    ∃ d0 d1, Bytes2 W W.heap.size a d0 d1 := by
  obtain ⟨fuel, hf⟩ := h
  rcases open_ints Yba.underlying25 Yba.underlying5 cells5 hf with ⟨hcs, _⟩ | ⟨x, l', c', zs, hcs, _, hl, hm, hz, _, hcell, hwz⟩
  · simp [Value.cells] at hcs
    obtain ⟨rfl, rfl, rfl⟩ := hcs
    omega
  · simp [Value.cells] at hcs
    obtain ⟨rfl, rfl, rfl⟩ := hcs
    have hz' : zs.length = c := by simpa using hz
    obtain ⟨b, off, spot⟩ := x
    have hspot : spot = none := by simpa [Addr.add] using World.cell?_spot (hcell 0 (by omega))
    subst hspot
    have g0 := hcell 0 (by omega)
    have g1 := hcell 1 (by omega)
    rw [add_plain] at g0 g1
    refine ⟨zs.getD 0 0, zs.getD 1 0, b, off, rfl, World.block_lt_of_cell? _ _ g0, g0, g1, ?_, ?_⟩
    · have := range_u8 hwz 0
      simpa [List.getD] using this
    · have := range_u8 hwz 1
      simpa [List.getD] using this

set_option maxRecDepth 100000 in
theorem model_said_lifted (os : Os) (started : os.Started) (H : Type) (enc : TypeId × Value → H) :
    ReturnsInHanded {} Yba.checked os 3 .any (Rows.lawS2776AModelSpec.pre6 enc Yba.prog Yba.f3 Rows.lawS2776AModelRow.domain false) (Rows.lawS2776AModelSpec.post enc Yba.prog Yba.f3 false true false false) := by
  refine returnsInHanded_of_change (C := Yba.checked) own started (by kernel_rfl) Yba.func3
    (ChangeSpec.witness6 (enc := enc) (C := Yba.checked) false ⟨#[], #[.bool false, .agg #[.int .u64 0, .int .u64 0, .int .u64 0, .int .u64 0], .int .u64 0, .slice none 0 0, .slice none 0 0, .int .u8 0, .slice none 0 0], []⟩ 8 (by kernel_rfl) (by kernel_rfl) (by kernel_rfl) (by kernel_rfl)) ?_
  intro W base args ds gs before hval0 hW hcnd _
  have hval : ∀ (j : Nat) t v, Yba.f3.params[j]? = some t → args[j]? = some v → Value.okWide Yba.prog W .any base t v := hval0
  have hW' := hW
  obtain ⟨p, q, hA0, hV, rfl, hfz, hnd⟩ := hW
  have hA : DataW.TrodAll enc Yba.prog W 0 (fun _ => true) true Yba.f3.params.toList args.toList ds p := hA0
  rw [Yba.params3] at hA hval
  obtain ⟨v0, vs0, d0, ds0, p0, q0, hargs, rfl, rfl, h0, r0⟩ := trodAll_cons hA
  obtain ⟨v1, vs1, d1, ds1, p1, q1, rfl, rfl, rfl, h1, r1⟩ := trodAll_cons r0
  obtain ⟨v2, vs2, d2, ds2, p2, q2, rfl, rfl, rfl, h2, r2⟩ := trodAll_cons r1
  obtain ⟨v3, vs3, d3, ds3, p3, q3, rfl, rfl, rfl, h3, r3⟩ := trodAll_cons r2
  obtain ⟨v4, vs4, d4, ds4, p4, q4, rfl, rfl, rfl, h4, r4⟩ := trodAll_cons r3
  obtain ⟨v5, vs5, d5, ds5, p5, q5, rfl, rfl, rfl, h5, r5⟩ := trodAll_cons r4
  obtain ⟨v6, vs6, d6, ds6, p6, q6, rfl, rfl, rfl, h6, r6⟩ := trodAll_cons r5
  obtain ⟨rfl, rfl, rfl⟩ := trodAll_nil r6
  obtain rfl : args = #[v0, v1, v2, v3, v4, v5, v6] := by cases args; simp_all
  obtain ⟨rfl, rfl⟩ := trodVars_none hV
  obtain ⟨acc, rfl, rfl, rfl⟩ := open_bool Yba.underlying4 (hval 0 4 v0 rfl rfl) h0
  obtain ⟨s0, s1, s2, s3, rfl, rfl⟩ := open_words (hval 1 23 v1 rfl rfl) h1
  obtain ⟨u, rfl, rfl, rfl, wu⟩ := open_int Yba.underlying22 (hval 2 22 v2 rfl rfl) h2
  obtain ⟨a3, l3, c3, rfl⟩ := okWide_slice Yba.underlying24 (hval 3 24 v3 rfl rfl)
  obtain ⟨a4, l4, c4, rfl⟩ := okWide_slice Yba.underlying24 (hval 4 24 v4 rfl rfl)
  obtain ⟨k, rfl, rfl, rfl, wk⟩ := open_int Yba.underlying5 (hval 5 5 v5 rfl rfl) h5
  obtain ⟨a6, l6, c6, rfl⟩ := okWide_slice Yba.underlying25 (hval 6 25 v6 rfl rfl)
  have lt3 : ∀ x ∈ p3, x.block < W.heap.size := by obtain ⟨m, hm⟩ := h3; exact DataW.trod_lt m _ _ _ hm
  have lt4 : ∀ x ∈ p4, x.block < W.heap.size := by obtain ⟨m, hm⟩ := h4; exact DataW.trod_lt m _ _ _ hm
  have lt6 : ∀ x ∈ p6, x.block < W.heap.size := by obtain ⟨m, hm⟩ := h6; exact DataW.trod_lt m _ _ _ hm
  have ins : Ins W a3 a4 a6 l3 c3 l4 c4 l6 c6 := ⟨rd_of_ints h3, rd_of_ints h4, bytes_of_ints h6⟩
  obtain ⟨k0, k1⟩ := bounds_u8 wk
  clear hA0 hval0
  refine (model_walk acc s0 s1 s2 s3 u a3 a4 a6 l3 c3 l4 c4 l6 c6 k W ins k0 k1).mono fun e W' ⟨he, bel⟩ => ?_
  subst he
  exact ⟨_, rfl, _, _, _, [], _, [], hW', trodAll_mk1 (shut_bool Yba.underlying4 _),
    (trodAll_cons_mk (shut_bool Yba.underlying4 acc) (trodAll_cons_mk (Below.trod laidOut (by kernel_rfl) (of_decide_eq_true (by kernel_rfl)) h1 bel (by simp)) (trodAll_cons_mk (shut_int Yba.underlying22 wu)
      (trodAll_cons_mk (Below.trod laidOut (by kernel_rfl) (of_decide_eq_true (by kernel_rfl)) h3 bel lt3) (trodAll_cons_mk (Below.trod laidOut (by kernel_rfl) (of_decide_eq_true (by kernel_rfl)) h4 bel lt4) (trodAll_cons_mk (shut_int Yba.underlying5 wk)
        (trodAll_cons_mk (Below.trod laidOut (by kernel_rfl) (of_decide_eq_true (by kernel_rfl)) h6 bel lt6) trodAll_mk0))))))), rfl, bel.frame _, fun h => by cases h⟩

theorem model_said : Rows.LawS2776AModelSaid :=
  OpenClaim.holds_of_wide 3 Yba.f3 rfl rfl rfl rfl rfl rfl rfl ⟨rfl, rfl, rfl, rfl, rfl⟩ rfl rfl rfl rfl rfl (by kernel_rfl) Yba.func3 (by kernel_rfl)
    (of_decide_eq_true (by kernel_rfl)) (by unfold Func.isWrapper; first | (rw [if_pos (by decide +kernel)]; kernel_rfl) | (rw [if_neg (by decide +kernel)]; exact ⟨rfl, rfl⟩))
    (fun os started H enc _ => model_said_lifted os started H enc)
#print axioms model_said

set_option maxRecDepth 100000 in
theorem edge_said_lifted (os : Os) (started : os.Started) (H : Type) (enc : TypeId × Value → H) :
    ReturnsInHanded {} Yba.checked os 4 .any (Rows.lawS2776AEdgeKindsSpec.pre6 enc Yba.prog Yba.f4 Rows.lawS2776AEdgeKindsRow.domain false) (Rows.lawS2776AEdgeKindsSpec.post enc Yba.prog Yba.f4 false true false false) := by
  refine returnsInHanded_of_change (C := Yba.checked) own started (by kernel_rfl) Yba.func4
    (ChangeSpec.witness6 (enc := enc) (C := Yba.checked) false ⟨#[], #[.bool false, .agg #[.int .u64 0, .int .u64 0, .int .u64 0, .int .u64 0], .int .u64 0, .slice none 0 0, .slice none 0 0, .int .u8 0, .slice none 0 0], []⟩ 8 (by kernel_rfl) (by kernel_rfl) (by kernel_rfl) (by kernel_rfl)) ?_
  intro W base args ds gs before hval0 hW hcnd _
  have hval : ∀ (j : Nat) t v, Yba.f4.params[j]? = some t → args[j]? = some v → Value.okWide Yba.prog W .any base t v := hval0
  have hW' := hW
  obtain ⟨p, q, hA0, hV, rfl, hfz, hnd⟩ := hW
  have hA : DataW.TrodAll enc Yba.prog W 0 (fun _ => true) true Yba.f4.params.toList args.toList ds p := hA0
  rw [Yba.params4] at hA hval
  obtain ⟨v0, vs0, d0, ds0, p0, q0, hargs, rfl, rfl, h0, r0⟩ := trodAll_cons hA
  obtain ⟨v1, vs1, d1, ds1, p1, q1, rfl, rfl, rfl, h1, r1⟩ := trodAll_cons r0
  obtain ⟨v2, vs2, d2, ds2, p2, q2, rfl, rfl, rfl, h2, r2⟩ := trodAll_cons r1
  obtain ⟨v3, vs3, d3, ds3, p3, q3, rfl, rfl, rfl, h3, r3⟩ := trodAll_cons r2
  obtain ⟨v4, vs4, d4, ds4, p4, q4, rfl, rfl, rfl, h4, r4⟩ := trodAll_cons r3
  obtain ⟨v5, vs5, d5, ds5, p5, q5, rfl, rfl, rfl, h5, r5⟩ := trodAll_cons r4
  obtain ⟨v6, vs6, d6, ds6, p6, q6, rfl, rfl, rfl, h6, r6⟩ := trodAll_cons r5
  obtain ⟨rfl, rfl, rfl⟩ := trodAll_nil r6
  obtain rfl : args = #[v0, v1, v2, v3, v4, v5, v6] := by cases args; simp_all
  obtain ⟨rfl, rfl⟩ := trodVars_none hV
  obtain ⟨acc, rfl, rfl, rfl⟩ := open_bool Yba.underlying4 (hval 0 4 v0 rfl rfl) h0
  obtain ⟨s0, s1, s2, s3, rfl, rfl⟩ := open_words (hval 1 23 v1 rfl rfl) h1
  obtain ⟨u, rfl, rfl, rfl, wu⟩ := open_int Yba.underlying22 (hval 2 22 v2 rfl rfl) h2
  obtain ⟨a3, l3, c3, rfl⟩ := okWide_slice Yba.underlying24 (hval 3 24 v3 rfl rfl)
  obtain ⟨a4, l4, c4, rfl⟩ := okWide_slice Yba.underlying24 (hval 4 24 v4 rfl rfl)
  obtain ⟨k, rfl, rfl, rfl, wk⟩ := open_int Yba.underlying5 (hval 5 5 v5 rfl rfl) h5
  obtain ⟨a6, l6, c6, rfl⟩ := okWide_slice Yba.underlying25 (hval 6 25 v6 rfl rfl)
  have lt3 : ∀ x ∈ p3, x.block < W.heap.size := by obtain ⟨m, hm⟩ := h3; exact DataW.trod_lt m _ _ _ hm
  have lt4 : ∀ x ∈ p4, x.block < W.heap.size := by obtain ⟨m, hm⟩ := h4; exact DataW.trod_lt m _ _ _ hm
  have lt6 : ∀ x ∈ p6, x.block < W.heap.size := by obtain ⟨m, hm⟩ := h6; exact DataW.trod_lt m _ _ _ hm
  have ins : Ins W a3 a4 a6 l3 c3 l4 c4 l6 c6 := ⟨rd_of_ints h3, rd_of_ints h4, bytes_of_ints h6⟩
  obtain ⟨k0, k1⟩ := bounds_u8 wk
  clear hA0 hval0
  refine (edge_walk acc s0 s1 s2 s3 u a3 a4 a6 l3 c3 l4 c4 l6 c6 k W ins k0 k1).mono fun e W' ⟨he, bel⟩ => ?_
  subst he
  exact ⟨_, rfl, _, _, _, [], _, [], hW', trodAll_mk1 (shut_bool Yba.underlying4 _),
    (trodAll_cons_mk (shut_bool Yba.underlying4 acc) (trodAll_cons_mk (Below.trod laidOut (by kernel_rfl) (of_decide_eq_true (by kernel_rfl)) h1 bel (by simp)) (trodAll_cons_mk (shut_int Yba.underlying22 wu)
      (trodAll_cons_mk (Below.trod laidOut (by kernel_rfl) (of_decide_eq_true (by kernel_rfl)) h3 bel lt3) (trodAll_cons_mk (Below.trod laidOut (by kernel_rfl) (of_decide_eq_true (by kernel_rfl)) h4 bel lt4) (trodAll_cons_mk (shut_int Yba.underlying5 wk)
        (trodAll_cons_mk (Below.trod laidOut (by kernel_rfl) (of_decide_eq_true (by kernel_rfl)) h6 bel lt6) trodAll_mk0))))))), rfl, bel.frame _, fun h => by cases h⟩

theorem edge_said : Rows.LawS2776AEdgeKindsSaid :=
  OpenClaim.holds_of_wide 4 Yba.f4 rfl rfl rfl rfl rfl rfl rfl ⟨rfl, rfl, rfl, rfl, rfl⟩ rfl rfl rfl rfl rfl (by kernel_rfl) Yba.func4 (by kernel_rfl)
    (of_decide_eq_true (by kernel_rfl)) (by unfold Func.isWrapper; first | (rw [if_pos (by decide +kernel)]; kernel_rfl) | (rw [if_neg (by decide +kernel)]; exact ⟨rfl, rfl⟩))
    (fun os started H enc _ => edge_said_lifted os started H enc)
#print axioms edge_said

end Go.Proofs.Ybulkbelu
