/-
  zzs2781cbuild BY ITS CONTRACT: a row of elements of the call's own that reads as the argument does, each content copied.
-/
import Derived.Test.YbulkbeomChecked
import Derived.WalkKit
import Derived.WalkSpells
import Derived.OwnWalk
import Derived.Lib.SliceRun
import Derived.Laws.CopyOwn
import Derived.WideShapes
import Derived.Deep.CutRange
import Derived.Deep.Cut
import Derived.Deep.DeepCutAuto
import Derived.Deep.QuietTactic
import Derived.BigQuiet
namespace Go.Proofs.Ybulkbeom
open Go.RowKit

/-- An element as data. -/
structure El where
  num : Int
  con : Bool
  ctx : Bool
  nil : Bool
  bs : List Int

/-- A slice of bytes that reads as bs, its cells in blocks from lo on. -/
def Con (w : World) (v : Value) (nil : Bool) (bs : List Int) (lo : Nat) : Prop :=
  ∃ ao cap, v = .slice ao bs.length cap ∧ ao.isNone = nil ∧ (ao = none → bs = []) ∧ (bs ≠ [] → ∃ b off, ao = some ⟨b, off, none⟩ ∧ lo ≤ b ∧ ∀ i, i < bs.length → w.cell? ⟨b, off + i, none⟩ = some (.int .u8 (bs.getD i 0)))

def clsB (b : Bool) : Int := if b then 2 else 0
def cls (e : El) : Int := clsB e.ctx

def SrcAt (w : World) (b off : Nat) (e : El) : Prop :=
  w.cell? ⟨b, off, none⟩ = some (.int .u32 e.num) ∧ w.cell? ⟨b, off + 1, none⟩ = some (.bool e.con) ∧ w.cell? ⟨b, off + 2, none⟩ = some (.bool e.ctx) ∧ ∃ v, w.cell? ⟨b, off + 3, none⟩ = some v ∧ Con w v e.nil e.bs 0

def DstAt (w : World) (g j : Nat) (e : El) : Prop :=
  w.cell? ⟨g, j * 4, none⟩ = some (.int .u8 (cls e)) ∧ w.cell? ⟨g, j * 4 + 1, none⟩ = some (.bool e.con) ∧ w.cell? ⟨g, j * 4 + 2, none⟩ = some (.int .u32 e.num) ∧ ∃ v, w.cell? ⟨g, j * 4 + 3, none⟩ = some v ∧ Con w v e.nil e.bs (g + 1)

/-- The argument: n elements. -/
structure Src (w : World) (a : Option Addr) (n : Nat) (E : Nat → El) : Prop where
  nil : a = none → n = 0
  elem : ∀ j, j < n → ∃ b off, a = some ⟨b, off, none⟩ ∧ SrcAt w b (off + j * 4) (E j)
  small : ∀ j, j < n → (E j).bs.length ≤ 140737488355328

theorem Con.below {w w' : World} {v : Value} {nil : Bool} {bs : List Int} {lo : Nat} (h : Con w v nil bs lo) (hb : Below w.heap.size w w') : Con w' v nil bs lo := by
  obtain ⟨ao, cap, e, h1, h2, h3⟩ := h
  refine ⟨ao, cap, e, h1, h2, fun hne => ?_⟩
  obtain ⟨b, off, e2, hl, hc⟩ := h3 hne
  exact ⟨b, off, e2, hl, fun i hi => (hb.cell (World.block_lt_of_cell? _ _ (hc i hi))).trans (hc i hi)⟩

theorem Src.later {w w' : World} {a : Option Addr} {n : Nat} {E : Nat → El} (h : Src w a n E) (hb : Below w.heap.size w w') : Src w' a n E := by
  refine ⟨h.nil, fun j hj => ?_, h.small⟩
  obtain ⟨b, off, e, s0, s1, s2, v, s3, s4⟩ := h.elem j hj
  have hl : b < w.heap.size := World.block_lt_of_cell? _ _ s0
  exact ⟨b, off, e, (hb.cell hl).trans s0, (hb.cell hl).trans s1, (hb.cell hl).trans s2, v, (hb.cell hl).trans s3, s4.below hb⟩

theorem grownBy_below' {w w' : World} (h : w.grownBy w' none) : Below w.heap.size w w' := ⟨h.os, h.tape, h.output, h.size, fun k hk => h.block k hk (by simp)⟩

theorem info58 : (Yba.prog.info? 58).map (fun i => (i.zero, i.size, i.bytes)) = some (some (.agg #[.int .u8 0, .bool false, .int .u32 0, .slice none 0 0]), 4, 32) := by kernel_rfl
theorem info5' : (Yba.prog.info? 5).map (fun i => (i.zero, i.size, i.bytes)) = some (some (.int .u8 0), 1, 1) := by kernel_rfl

/-- A row of 58s under way: k elements are there. -/
structure Row (w : World) (g n k : Nat) (E : Nat → El) : Prop where
  row : ∃ cur, w.heap[g]? = some (.cells cur 58 (0, 0)) ∧ cur.size = n * 4
  done : ∀ j, j < k → DstAt w g j (E j)

/-- The row behind an owned slice that is not nil. -/
theorem row_of {w : World} {base : Nat} {e : TypeId} {size g n cap : Nat} {xs : List Value} (h : w.ownsRow base e size (.slice (some ⟨g, 0, none⟩) n cap) n xs) : ∃ cur, w.heap[g]? = some (.cells cur e (0, 0)) ∧ cur.size = cap * size := by
  rcases h.2 with ⟨e, _⟩ | ⟨g, c, cur, e, _, hh, _, _, hs, _⟩
  · cases e
  · simp only [Value.slice.injEq, Option.some.injEq, Addr.mk.injEq, and_true, true_and] at e
    obtain ⟨rfl, rfl⟩ := e
    exact ⟨cur, hh, hs⟩

/-- 'copy' into a row of the same length. -/
theorem copy_run {w : World} {g cc : Nat} {ca : Addr} {bs : List Int} {cur : Array Value} (hh : w.heap[g]? = some (.cells cur 5 (0, 0))) (hs : cur.size = bs.length)
    (hc : bs ≠ [] → ∃ b off, ca = ⟨b, off, none⟩ ∧ ∀ i, i < bs.length → w.cell? ⟨b, off + i, none⟩ = some (.int .u8 (bs.getD i 0))) :
    ∃ w3, (Builtin.copy_ #[22, 22] 3 #[.slice (some ⟨g, 0, none⟩) bs.length bs.length, .slice (some ca) bs.length cc]).run Yba.prog w = .ok (goInt bs.length) w3 ∧
      (w3.os = w.os ∧ w3.tape = w.tape ∧ w3.output = w.output ∧ w3.heap.size = w.heap.size ∧ ∀ k, k ≠ g → w3.heap[k]? = w.heap[k]?) ∧ ∀ i, i < bs.length → w3.cell? ⟨g, i, none⟩ = some (.int .u8 (bs.getD i 0)) := by
  have hsz : (Yba.prog.info? 5).map (·.size) = some 1 := by kernel_rfl
  have hsrc : ∀ j v, (bs.map (Value.int .u8))[j]? = some v → w.cell? (ca.add j) = some v := fun j v hv => by
    have hj : j < bs.length := by
      rcases Nat.lt_or_ge j bs.length with h' | h'
      · exact h'
      · simp [List.getElem?_eq_none h'] at hv
    obtain ⟨b, off, rfl, hcell⟩ := hc (fun e => by subst e; simp at hj)
    rw [WideShapes.add_plain, hcell j hj]
    simp [List.getElem?_eq_getElem hj] at hv
    simp [List.getD, List.getElem?_eq_getElem hj, hv]
  have hrun := run_copy_row (P := Yba.prog) w 22 22 3 5 g 0 bs.length bs.length ca bs.length cc cur 5 (bs.map (Value.int .u8)) Yba.underlying22 hsz hh (by simp) hsrc (by simp; omega) (ints_oneCell _ _)
  have hl : cur.toList.take 0 ++ bs.map (Value.int .u8) ++ cur.toList.drop (0 + (bs.map (Value.int .u8)).length) = bs.map (Value.int .u8) := by
    rw [List.drop_eq_nil_of_le (by simp; omega)]
    simp
  rw [hl, List.length_map] at hrun
  refine ⟨_, hrun, ⟨rfl, rfl, rfl, by simp [World.setRow], fun k hk => setRow_other w g k _ hk⟩, fun i hi => ?_⟩
  rw [cell_setRow_same w g i cur _ 5 (0, 0) hh]
  simp [List.getD, List.getElem?_eq_getElem hi]

theorem below_of_alloc {w w' : World} {o : Obj} (h : (w.alloc o).grownBy w' none) : Below w.heap.size w w' :=
  ⟨h.os, h.tape, h.output, by have := h.size; simp at this; omega, fun k hk => (h.block k (by simp; omega) (by simp)).trans (Below.heap_alloc _ _ _ hk)⟩

theorem DstAt.later {w w' : World} {g j : Nat} {e : El} (h : DstAt w g j e) (hb : Below w.heap.size w w') : DstAt w' g j e := by
  obtain ⟨h0, h1, h2, v, h3, h4⟩ := h
  have hg : g < w.heap.size := World.block_lt_of_cell? _ _ h0
  exact ⟨(hb.cell hg).trans h0, (hb.cell hg).trans h1, (hb.cell hg).trans h2, v, (hb.cell hg).trans h3, h4.below hb⟩

theorem Row.lt {w : World} {g n k : Nat} {E : Nat → El} (h : Row w g n k E) : g < w.heap.size := by
  obtain ⟨cur, hc, _⟩ := h.row
  rcases Nat.lt_or_ge g w.heap.size with h' | h'
  · exact h'
  · simp [Array.getElem?_eq_none h'] at hc

theorem Row.later {w w' : World} {g n k : Nat} {E : Nat → El} (h : Row w g n k E) (hb : Below w.heap.size w w') : Row w' g n k E := by
  obtain ⟨cur, hc, hs⟩ := h.row
  exact ⟨⟨cur, (hb.block g h.lt).trans hc, hs⟩, fun j hj => (h.done j hj).later hb⟩

theorem Row.olds {w : World} {g n k : Nat} {E : Nat → El} (h : Row w g n k E) (hk : k < n) :
    (∃ o, w.cell? ⟨g, k * 4, none⟩ = some o) ∧ (∃ o, w.cell? ⟨g, k * 4 + 1, none⟩ = some o) ∧ (∃ o, w.cell? ⟨g, k * 4 + 2, none⟩ = some o) ∧ (∃ o, w.cell? ⟨g, k * 4 + 3, none⟩ = some o) ∧ ∀ j, w.frozen? ⟨g, j, none⟩ = false := by
  obtain ⟨cur, hc, hs⟩ := h.row
  have one : ∀ j, j < n * 4 → ∃ o, w.cell? ⟨g, j, none⟩ = some o := fun j hj => ⟨_, (cell_of_row w g j cur _ _ hc).trans (Array.getElem?_eq_getElem (by omega))⟩
  exact ⟨one _ (by omega), one _ (by omega), one _ (by omega), one _ (by omega), fun j => frozen_of_row w g j cur _ hc⟩

theorem Con.set {w : World} {v : Value} {nil : Bool} {bs : List Int} {g j : Nat} (h : Con w v nil bs (g + 1)) (x : Value) : Con (w.setCell ⟨g, j, none⟩ x) v nil bs (g + 1) := by
  obtain ⟨ao, cap, e, h1, h2, h3⟩ := h
  refine ⟨ao, cap, e, h1, h2, fun hne => ?_⟩
  obtain ⟨b, off, e2, hl, hc⟩ := h3 hne
  refine ⟨b, off, e2, hl, fun i hi => ?_⟩
  rw [World.cell?_of_block (w := w) (a := ⟨b, off + i, none⟩) (Below.heap_setCell _ _ _ _ (by show b ≠ g; omega))]
  exact hc i hi

theorem Row.step {w : World} {g n k : Nat} {E : Nat → El} (h : Row w g n k E) (hk : k < n) {num : Int} {con ctx nl : Bool} {bs : List Int} (hE : E k = ⟨num, con, ctx, nl, bs⟩) {v : Value} (hv : Con w v nl bs (g + 1)) :
    Row ((((w.setCell ⟨g, k * 4, none⟩ (.int .u8 (clsB ctx))).setCell ⟨g, k * 4 + 1, none⟩ (.bool con)).setCell ⟨g, k * 4 + 2, none⟩ (.int .u32 num)).setCell ⟨g, k * 4 + 3, none⟩ v) g n (k + 1) E := by
  obtain ⟨cur, hc, hs⟩ := h.row
  have r1 := heap_setCell_same w g (k * 4) cur 58 (.int .u8 (clsB ctx)) hc
  have r2 := heap_setCell_same _ g (k * 4 + 1) _ 58 (.bool con) r1
  have r3 := heap_setCell_same _ g (k * 4 + 2) _ 58 (.int .u32 num) r2
  have r4 := heap_setCell_same _ g (k * 4 + 3) _ 58 v r3
  have cl := fun j => cell_of_row _ g j _ _ _ r4
  refine ⟨⟨_, r4, by simp; exact hs⟩, fun j hj => ?_⟩
  by_cases e : j = k
  · subst e
    refine ⟨?_, ?_, ?_, v, ?_, (((hv.set _).set _).set _).set _ |> fun h => by rw [hE]; exact h⟩
    · rw [cl, hE]; simp [Array.getElem?_setIfInBounds, hs, cls]; omega
    · rw [cl, hE]; simp [Array.getElem?_setIfInBounds, hs]; omega
    · rw [cl, hE]; simp [Array.getElem?_setIfInBounds, hs]; omega
    · rw [cl]; simp [Array.getElem?_setIfInBounds, hs]; omega
  · have hj' : j < k := by omega
    obtain ⟨d0, d1, d2, vj, d3, d4⟩ := h.done j hj'
    rw [cell_of_row w g _ _ _ _ hc] at d0 d1 d2 d3
    refine ⟨?_, ?_, ?_, vj, ?_, (((d4.set _).set _).set _).set _⟩
    · rw [cl, Array.getElem?_setIfInBounds_ne (by omega), Array.getElem?_setIfInBounds_ne (by omega), Array.getElem?_setIfInBounds_ne (by omega), Array.getElem?_setIfInBounds_ne (by omega)]; exact d0
    · rw [cl, Array.getElem?_setIfInBounds_ne (by omega), Array.getElem?_setIfInBounds_ne (by omega), Array.getElem?_setIfInBounds_ne (by omega), Array.getElem?_setIfInBounds_ne (by omega)]; exact d1
    · rw [cl, Array.getElem?_setIfInBounds_ne (by omega), Array.getElem?_setIfInBounds_ne (by omega), Array.getElem?_setIfInBounds_ne (by omega), Array.getElem?_setIfInBounds_ne (by omega)]; exact d2
    · rw [cl, Array.getElem?_setIfInBounds_ne (by omega), Array.getElem?_setIfInBounds_ne (by omega), Array.getElem?_setIfInBounds_ne (by omega), Array.getElem?_setIfInBounds_ne (by omega)]; exact d3

set_option maxRecDepth 100000 in
set_option maxHeartbeats 1600000 in
theorem build_some (a : Addr) (n cap : Nat) (E : Nat → El) (w : World) (h : Src w (some a) n E) (hn : n ≤ 1024) :
    Calls Yba.prog 14 #[.slice (some a) n cap] w fun e w' => e = .returned (.slice (some ⟨w.heap.size, 0, none⟩) n n) ∧ Row w' w.heap.size n n E ∧ Below w.heap.size w w' := by
  obtain ⟨i0, hi, hz0, hz1, hz2⟩ := info_parts info58
  obtain ⟨j0, hj, hy0, hy1, hy2⟩ := info_parts info5'
  have hnil := fun (wx : World) => Lib.run_eql_slice_nil (P := Yba.prog) wx 48 66 (some a) n cap 0 0 Yba.underlying48
  go_enter Yba.func14, Yba.ntmps14
  go_wp2_with (at_make; refine wpList_make_full _ rfl (.tmp 11) (.tmp 11) 50 rfl w.heap.size 58 i0 _ 4 Yba.underlying50 hi hz0 hz1 .i64 .i64 _ _ n rfl rfl rfl rfl ?b2 ?b3 (Nat.le_refl _) ?_)
  case b2 => rw [hz2]; omega
  case b3 => unfold maxLen; omega
  intro w1 hown hg
  have hrow : ∃ cur, w1.heap[w.heap.size]? = some (.cells cur 58 (0, 0)) ∧ cur.size = n * 4 := by
    rcases hown.2 with ⟨e, _⟩ | ⟨g, c, cur, e, _, hh, _, _, hs, _⟩
    · cases e
    · simp only [Value.slice.injEq, Option.some.injEq, Addr.mk.injEq, and_true, true_and] at e
      obtain ⟨rfl, rfl⟩ := e
      exact ⟨cur, hh, hs⟩
  have hb1 : Below w.heap.size w w1 := grownBy_below' hg
  have hz : w.heap.size < w1.heap.size := by
    obtain ⟨cur, hc, _⟩ := hrow
    rcases Nat.lt_or_ge w.heap.size w1.heap.size with h' | h'
    · exact h'
    · simp [Array.getElem?_eq_none h'] at hc
  clear hown hg
  go_wp2_with fail
  go_loopw [4] (fun i wr => ∃ k : Nat, k ≤ n ∧ i = .int .i64 k ∧ Row wr w.heap.size n k E ∧ Below w.heap.size w wr) (fun i _ => n - (intOf i).toNat)
  case atStart => exact ⟨0, Nat.zero_le _, rfl, ⟨hrow, fun j hj => absurd hj (Nat.not_lt_zero _)⟩, hb1⟩
  case round =>
    clear hrow hb1 hz
    obtain ⟨k, hk, rfl, hR, hbw⟩ := hrel
    by_cases hlt : k < n
    · obtain ⟨b, off, e, s0, s1, s2, vc, s3, hcon⟩ := h.elem k hlt
      obtain rfl := Option.some.inj e
      have b0 : b < w.heap.size := World.block_lt_of_cell? _ _ s0
      have t0 := (hbw.cell (p := ⟨b, off + k * 4, none⟩) b0).trans s0
      have t1 := (hbw.cell (p := ⟨b, off + k * 4 + 1, none⟩) b0).trans s1
      have t2 := (hbw.cell (p := ⟨b, off + k * 4 + 2, none⟩) b0).trans s2
      have t3 := (hbw.cell (p := ⟨b, off + k * 4 + 3, none⟩) b0).trans s3
      clear s0 s1 s2 s3 e
      have hcon1 := hcon.below hbw
      obtain ⟨ca, cc, rfl, hca, hcb, hcc⟩ := hcon1
      clear hcon
      have hkn : (k : Int) < (n : Int) := by omega
      have hk4 : (k : Int) ≤ 1024 := by omega
      have hsm := h.small k hlt
      obtain ⟨num, con, ctx, nl, bs, hE⟩ : ∃ num con ctx nl bs, E k = ⟨num, con, ctx, nl, bs⟩ := ⟨_, _, _, _, _, rfl⟩
      rw [hE] at t0 t1 t2 t3 hca hcb hcc hsm
      dsimp only at t0 t1 t2 t3 hca hcb hcc hsm
      have HE : Hid (E k = ⟨num, con, ctx, nl, bs⟩) := hE
      clear hE
      have hnl : Hid (ca.isNone = nl) := hca
      have HB : Hid (ca = none → bs = []) := hcb
      clear hca hcb
      have wz : w.heap.size < wr.heap.size := by
        obtain ⟨cur, hc, _⟩ := hR.row
        rcases Nat.lt_or_ge w.heap.size wr.heap.size with h' | h'
        · exact h'
        · simp [Array.getElem?_eq_none h'] at hc
      go_upto_if 24 with fail
      go_cut [6] (fun c wx => c = .int .u8 (clsB ctx) ∧ wx = wr.alloc (.cells #[.int .u32 num, .bool con, .bool ctx, .slice ca bs.length cc] 66))
      case first =>
        cases ctx
        · go_wp2_with fail
          go_meet
          case rel => exact ⟨rfl, rfl⟩
        · go_wp2_with fail
          go_meet
          case rel => exact ⟨rfl, rfl⟩
      case rest =>
        obtain ⟨rfl, rfl⟩ := hcut
        have hneq := fun (wx : World) => run_neq_slice_nil_any (P := Yba.prog) wx 22 5 ca bs.length cc 0 0 Yba.underlying22
        go_upto_if 27 with fail
        go_cut [7] (fun v wx => Con wx v nl bs (w.heap.size + 1) ∧ (wr.alloc (.cells #[.int .u32 num, .bool con, .bool ctx, .slice ca bs.length cc] 66)).grownBy wx none)
        case first =>
          cases ca with
          | none =>
            have hbs : Hid (bs = []) := HB.out rfl
            go_wp2_with fail
            go_meet
            case rel => exact ⟨⟨none, 0, by rw [hbs.out]; rfl, hnl.out, fun _ => hbs.out, fun h => absurd hbs.out h⟩, World.grownBy.refl _ _⟩
          | some ca =>
            have HC : Hid (bs ≠ [] → ∃ b off, some ca = some (⟨b, off, none⟩ : Addr) ∧ 0 ≤ b ∧ ∀ i, i < bs.length → wr.cell? ⟨b, off + i, none⟩ = some (.int .u8 (bs.getD i 0))) := hcc
            clear hcc
            have hL : (bs.length : Int) ≤ 140737488355328 := by omega
            go_wp2_with (at_make; refine wpList_make_full _ rfl (.tmp 30) (.tmp 30) 22 rfl 0 5 j0 (.int .u8 0) 1 Yba.underlying22 hj hy0 hy1 .i64 .i64 _ _ bs.length rfl rfl rfl rfl ?b2 ?b3 (Nat.zero_le _) ?_)
            case b2 => rw [hy2]; omega
            case b3 => unfold maxLen; omega
            intro w2 hown2 hg2
            have hrow2 := row_of hown2
            have x3 : w2.cell? ⟨wr.heap.size, 3, none⟩ = some (.slice (some ca) bs.length cc) := hg2.cell (by go_simp) (by simp)
            obtain ⟨cur2, hh2, hs2⟩ := hrow2
            have hb2 := grownBy_below' hg2
            clear hown2 hg2
            have hsrc : bs ≠ [] → ∃ b off, ca = ⟨b, off, none⟩ ∧ ∀ i, i < bs.length → w2.cell? ⟨b, off + i, none⟩ = some (.int .u8 (bs.getD i 0)) := fun hne => by
              obtain ⟨b, off, e, _, hc⟩ := HC.out hne
              exact ⟨b, off, Option.some.inj e, fun i hi => by
                have hb0 : b < wr.heap.size := World.block_lt_of_cell? _ _ (hc i hi)
                rw [hb2.cell (by show b < _; simp; omega), World.cell?_alloc_lt _ _ _ hb0]
                exact hc i hi⟩
            have hs2' : cur2.size = bs.length := by simpa using hs2
            obtain ⟨w3, hrun, hk3, hc3⟩ := copy_run (by simpa using hh2) hs2' hsrc (cc := cc)
            have g3 : (wr.alloc (.cells #[.int .u32 num, .bool con, .bool ctx, .slice (some ca) bs.length cc] 66)).grownBy w3 none := ⟨hk3.1.trans hb2.os, hk3.2.1.trans hb2.tape, hk3.2.2.1.trans hb2.output, Nat.le_trans hb2.size (Nat.le_of_eq hk3.2.2.2.1.symm), fun k hk _ => (hk3.2.2.2.2 k (by simp at hk; omega)).trans (hb2.block k hk)⟩
            have HK : Hid (∀ i, i < bs.length → w3.cell? ⟨wr.heap.size + 1, i, none⟩ = some (.int .u8 (bs.getD i 0))) := hc3
            clear hsrc hc3 hk3 hs2 hs2' hh2 hb2
            go_wp2_with fail
            go_meet
            case rel => exact ⟨⟨some ⟨wr.heap.size + 1, 0, none⟩, bs.length, rfl, hnl.out, (fun e => by cases e), fun _ => ⟨wr.heap.size + 1, 0, rfl, by omega, fun i hi => by rw [Nat.zero_add]; exact HK.out i hi⟩⟩, g3⟩
        case rest =>
          obtain ⟨hcon2, gx⟩ := hcut
          obtain ⟨da, dc, rfl⟩ : ∃ da dc, u7 = .slice da bs.length dc := by
            obtain ⟨da, dc, e, _⟩ := hcon2
            exact ⟨da, dc, e⟩
          have HC : Hid (Con wc (.slice da bs.length dc) nl bs (w.heap.size + 1)) := hcon2
          clear hcon2 hneq
          have y0 : wc.cell? ⟨wr.heap.size, 0, none⟩ = some (.int .u32 num) := gx.cell (by go_simp) (by simp)
          have y1 : wc.cell? ⟨wr.heap.size, 1, none⟩ = some (.bool con) := gx.cell (by go_simp) (by simp)
          have hRc : Row wc w.heap.size n k E := hR.later (below_of_alloc gx)
          have hbc : Below w.heap.size w wc := hbw.trans ((below_of_alloc gx).mono hbw.size)
          obtain ⟨⟨o0, m0⟩, ⟨o1, m1⟩, ⟨o2, m2⟩, ⟨o3, m3⟩, fz⟩ := hRc.olds hlt
          have z0 := fz (k * 4)
          have z1 := fz (k * 4 + 1)
          have z2 := fz (k * 4 + 2)
          have z3 := fz (k * 4 + 3)
          clear hR gx fz hbw
          go_wp2_with fail
          go_roundw
          case rel => exact ⟨k + 1, by omega, by go_num, hRc.step hlt HE.out HC.out, (((hbc.setCell (Nat.le_refl _) _).setCell (Nat.le_refl _) _).setCell (Nat.le_refl _) _).setCell (Nat.le_refl _) _⟩
          case measure => simp [intOf]; omega
    · obtain rfl : k = n := by omega
      go_wp2_with fail
      go_ret
      exact ⟨rfl, hR, hbw⟩

theorem build_nil (w : World) : Calls Yba.prog 14 #[.slice none 0 0] w fun e w' => e = .returned (.slice none 0 0) ∧ w' = w := by
  have hnil := fun (wx : World) => Lib.run_eql_slice_nil (P := Yba.prog) wx 48 66 none 0 0 0 0 Yba.underlying48
  go_enter Yba.func14, Yba.ntmps14
  go_wp2
  go_ret
  exact ⟨rfl, rfl⟩

/-- What build hands back: n elements, at the head of a row of the call's own (or nil, n being 0). -/
def Built (w : World) (v : Value) (n : Nat) (E : Nat → El) : Prop :=
  ∃ fa, v = .slice fa n n ∧ (0 < n → ∃ g, fa = some ⟨g, 0, none⟩ ∧ Row w g n n E)

theorem build_any (a : Option Addr) (n cap : Nat) (E : Nat → El) (w : World) (h : Src w a n E) (hc : a = none → cap = 0) (hn : n ≤ 1024) :
    Calls Yba.prog 14 #[.slice a n cap] w fun e w' => ∃ v, e = .returned v ∧ Built w' v n E ∧ Below w.heap.size w w' := by
  cases a with
  | some a =>
    refine (build_some a n cap E w h hn).mono ?_
    rintro e w' ⟨rfl, hR, hb⟩
    exact ⟨_, rfl, ⟨_, rfl, fun _ => ⟨_, rfl, hR⟩⟩, hb⟩
  | none =>
    obtain rfl := h.nil rfl
    obtain rfl := hc rfl
    refine (build_nil w).mono ?_
    rintro e w' ⟨rfl, rfl⟩
    exact ⟨_, rfl, ⟨none, rfl, fun h => absurd h (Nat.lt_irrefl _)⟩, Below.refl _ _⟩

end Go.Proofs.Ybulkbeom
