/-
  (*fields).next, bytes.Equal BY THEIR CONTRACTS; LawS2781CWalk, WALKED.
-/
import Derived.Test.YbulkbeomElem
import Derived.Laws.BytesArg
import Derived.Laws.StructEq
namespace Go.Proofs.Ybulkbeom
open Go.RowKit

theorem next_empty (fb : Nat) (a : Option Addr) (c : Nat) (w : World) (h : w.cell? ⟨fb, 0, none⟩ = some (.slice a 0 c)) :
    Calls Yba.prog 15 #[.pointer (some ⟨fb, 0, none⟩)] w fun e w' => e = .returned (.pointer none) ∧ w' = w := by
  go_enter Yba.func15, Yba.ntmps15
  go_wp2
  go_ret
  exact ⟨rfl, rfl⟩

abbrev elO (c0 c2 : Int) (c1 : Bool) (v : Value) : Obj := .cells #[.int .u8 c0, .bool c1, .int .u32 c2, v] 58

set_option maxHeartbeats 800000 in
theorem next_some (fb g o m : Nat) (c0 c2 : Int) (c1 : Bool) (ca : Option Addr) (cl cc : Nat) (w : World) (h : w.cell? ⟨fb, 0, none⟩ = some (.slice (some ⟨g, o, none⟩) (m + 1) (m + 1))) (hf : w.frozen? ⟨fb, 0, none⟩ = false) (hm : m ≤ 1024)
    (h0 : w.cell? ⟨g, o, none⟩ = some (.int .u8 c0)) (h1 : w.cell? ⟨g, o + 1, none⟩ = some (.bool c1)) (h2 : w.cell? ⟨g, o + 2, none⟩ = some (.int .u32 c2)) (h3 : w.cell? ⟨g, o + 3, none⟩ = some (.slice ca cl cc)) :
    Calls Yba.prog 15 #[.pointer (some ⟨fb, 0, none⟩)] w fun e w' => e = .returned (.pointer (some ⟨w.heap.size, 0, none⟩)) ∧ ∃ X, (0 < m → X = some ⟨g, o + 4, none⟩) ∧ w' = (w.setCell ⟨fb, 0, none⟩ (.slice X m m)).alloc (elO c0 c2 c1 (.slice ca cl cc)) := by
  have hfb : fb < w.heap.size := World.block_lt_of_cell? _ _ h
  have hg : g < w.heap.size := World.block_lt_of_cell? _ _ h0
  have hl : (0 : Int) < ((m + 1 : Nat) : Int) := by omega
  by_cases hm0 : m = 0
  · subst hm0
    go_enter Yba.func15, Yba.ntmps15
    go_wp2
    go_ret
    refine ⟨rfl, some ⟨g, o, none⟩, ?_⟩
    first | exact ⟨fun h => by omega, rfl⟩ | exact rfl
  · go_enter Yba.func15, Yba.ntmps15
    go_wp2
    go_ret
    refine ⟨rfl, some ⟨g, o + 4, none⟩, ?_⟩
    first | exact ⟨fun _ => rfl, rfl⟩ | exact rfl

theorem conv_con {w : World} {ao : Option Addr} {cap lo : Nat} {nl : Bool} {bs : List Int} (h : Con w (.slice ao bs.length cap) nl bs lo) : (convert 22 9 (.slice ao bs.length cap)).run Yba.prog w = .ok (.string (strOfNums bs)) w := by
  obtain ⟨ao', cap', e, h1, h2, h3⟩ := h
  simp only [Value.slice.injEq, true_and] at e
  obtain ⟨rfl, rfl⟩ := e
  by_cases hb : bs = []
  · subst hb
    cases ao with
    | none =>
      have := run_convert_bytes_nil (P := Yba.prog) w 22 5 Yba.underlying22 Yba.underlying5 0 cap 9 Yba.underlying9
      rw [List.length_nil, this]
      rfl
    | some a =>
      have hl : (loadCells a 0).run Yba.prog w = .ok #[] w := by simpa using run_loadCells_list (P := Yba.prog) w a [] (by simp)
      have := run_convert_bytes_string (P := Yba.prog) w 22 9 5 (some a) 0 cap Yba.underlying22 Yba.underlying5 Yba.underlying9
      rw [List.length_nil, this, run_bytesToString w a 0 cap [] (by simpa using hl)]
      rfl
  · obtain ⟨b, off, rfl, _, hc⟩ := h3 hb
    exact run_convert_bytes_arg w 22 5 Yba.underlying22 Yba.underlying5 b off bs.length cap bs rfl hc 9 Yba.underlying9

theorem equal_same {w : World} {a1 a2 : Option Addr} {c1 c2 l1 l2 : Nat} {nl : Bool} {bs : List Int} (h1 : Con w (.slice a1 bs.length c1) nl bs l1) (h2 : Con w (.slice a2 bs.length c2) nl bs l2) :
    Calls Yba.prog 16 #[.slice a1 bs.length c1, .slice a2 bs.length c2] w fun e w' => e = .returned (.bool true) ∧ w' = w := by
  have k1 := conv_con h1
  have k2 := conv_con h2
  clear h1 h2
  go_enter Yba.func16, Yba.ntmps16
  go_wp2
  go_ret
  exact ⟨by simp, rfl⟩

theorem tag_same (w : World) (c n : Int) (b : Bool) : (binOp .neq 56 (.agg #[.int .u8 c, .bool b, .int .u32 n]) (.agg #[.int .u8 c, .bool b, .int .u32 n])).run Yba.prog w = .ok (.bool false) w := by
  go_simp

/-- The variable f: one cell. -/
def FVar (w : World) (fb : Nat) : Prop := ∃ x y z, w.heap[fb]? = some (.cells #[.slice x y z] 50 (0, 0))

theorem cell_kept {w wr : World} {fb b o : Nat} {v : Value} (hf : FVar w fb) (hg : w.grownBy wr (some fb)) (h : w.cell? ⟨b, o, none⟩ = some v) (hv : ∀ x y z, v ≠ .slice x y z ∨ b ≠ fb) : wr.cell? ⟨b, o, none⟩ = some v := by
  refine hg.cell h (fun e => ?_)
  have hb : b = fb := Option.some.inj e
  subst hb
  obtain ⟨x, y, z, hh⟩ := hf
  rw [cell_of_row w b o _ _ _ hh] at h
  match o, h with
  | 0, h =>
    simp at h
    rcases hv x y z with hn | hn
    · exact hn h.symm
    · exact hn rfl
  | o + 1, h => simp at h

theorem Con.kept {w wr : World} {fb : Nat} {v : Value} {nil : Bool} {bs : List Int} {lo : Nat} (h : Con w v nil bs lo) (hf : FVar w fb) (hg : w.grownBy wr (some fb)) : Con wr v nil bs lo := by
  obtain ⟨ao, cap, e, h1, h2, h3⟩ := h
  refine ⟨ao, cap, e, h1, h2, fun hne => ?_⟩
  obtain ⟨b, off, e2, hl, hc⟩ := h3 hne
  exact ⟨b, off, e2, hl, fun i hi => cell_kept hf hg (hc i hi) (fun _ _ _ => .inl (by simp))⟩

theorem Row.apart {w : World} {fb g n k : Nat} {E : Nat → El} (h : Row w g n k E) (hf : FVar w fb) : g ≠ fb := by
  intro e
  subst e
  obtain ⟨cur, hc, _⟩ := h.row
  obtain ⟨x, y, z, hh⟩ := hf
  rw [hh] at hc
  simp at hc

theorem DstAt.kept {w wr : World} {fb g j : Nat} {e : El} (h : DstAt w g j e) (hf : FVar w fb) (hg : w.grownBy wr (some fb)) (hne : g ≠ fb) : DstAt wr g j e := by
  obtain ⟨h0, h1, h2, v, h3, h4⟩ := h
  exact ⟨cell_kept hf hg h0 (fun _ _ _ => .inr hne), cell_kept hf hg h1 (fun _ _ _ => .inr hne), cell_kept hf hg h2 (fun _ _ _ => .inr hne), v, cell_kept hf hg h3 (fun _ _ _ => .inr hne), h4.kept hf hg⟩

theorem grown_next {w wr : World} {fb : Nat} (h : w.grownBy wr (some fb)) (v : Value) (o : Obj) : w.grownBy ((wr.setCell ⟨fb, 0, none⟩ v).alloc o) (some fb) := by
  refine ⟨h.os, h.tape, h.output, by have := h.size; simp; omega, fun k hk hne => ?_⟩
  have hk' : k < wr.heap.size := Nat.lt_of_lt_of_le hk h.size
  rw [Below.heap_alloc _ _ _ (by simpa using hk'), Below.heap_setCell _ _ _ _ (fun e => hne (by rw [e]))]
  exact h.block k hk hne

theorem grown_round {w wA : World} {fb pb : Nat} (h : w.grownBy wA (some fb)) (hp : w.heap.size ≤ pb) (o : Obj) (a b : Nat) (v : Value) : w.grownBy ((((wA.alloc o).drewN a).setCell ⟨pb, 2, none⟩ v).drewN b) (some fb) := by
  refine ⟨h.os, h.tape, h.output, by have := h.size; show _ ≤ (((wA.alloc o).drewN a).setCell ⟨pb, 2, none⟩ v).heap.size; simp [World.drewN]; omega, fun k hk hne => ?_⟩
  have hk' : k < wA.heap.size := Nat.lt_of_lt_of_le hk h.size
  show (((wA.alloc o).drewN a).setCell ⟨pb, 2, none⟩ v).heap[k]? = _
  rw [Below.heap_setCell _ _ _ _ (by show k ≠ pb; omega)]
  show (wA.alloc o).heap[k]? = _
  rw [Below.heap_alloc _ _ _ hk']
  exact h.block k hk hne

theorem walk_wide (a : Option Addr) (n cap : Nat) (w : World) (hn : 1024 < n) :
    Calls Yba.prog 6 #[.slice a n cap] w fun e w' => e = .returned (.bool true) ∧ Below w.heap.size w w' := by
  have hw : decide ((1024 : Int) < (n : Int)) = true := decide_eq_true (by omega)
  go_enter Yba.func6, Yba.ntmps6
  go_wp2
  go_ret
  exact ⟨rfl, Below.refl _ _⟩

set_option maxRecDepth 100000 in
set_option maxHeartbeats 1600000 in
theorem walk_some (a : Option Addr) (n cap : Nat) (E : Nat → El) (w : World) (h : Src w a n E) (hc : a = none → cap = 0) (hn : n ≤ 1024) :
    Calls Yba.prog 6 #[.slice a n cap] w fun e w' => e = .returned (.bool true) ∧ Below w.heap.size w w' := by
  have hw : decide ((1024 : Int) < (n : Int)) = false := decide_eq_false (by omega)
  have HC : Hid (a = none → cap = 0) := hc
  clear hc
  go_enter Yba.func6, Yba.ntmps6
  go_wp2_with fail
  refine (build_any a n cap E w h HC.out hn).mono ?_
  rintro e w1 ⟨vf, rfl, ⟨fa, rfl, hfa⟩, hb1⟩
  have hs1 := h.later hb1
  go_wp2_with fail
  refine (build_any a n cap E (w1.alloc (.cells #[.slice fa n n] 50)) (hs1.later ((Below.refl _ _).alloc (Nat.le_refl _) _)) HC.out hn).mono ?_
  rintro e w2 ⟨vo, rfl, ⟨oa, rfl, hoa⟩, hb2⟩
  have hF : FVar w2 w1.heap.size := ⟨fa, n, n, (hb2.block _ (by simp)).trans (heap_alloc_new _ _)⟩
  have hfc : w2.cell? ⟨w1.heap.size, 0, none⟩ = some (.slice fa n n) := (hb2.cell (by simp)).trans (by go_simp)
  have hff : w2.frozen? ⟨w1.heap.size, 0, none⟩ = false := (hb2.frozen (by simp)).trans (by go_simp)
  have hfa2 : 0 < n → ∃ g, fa = some ⟨g, 0, none⟩ ∧ Row w2 g n n E := fun h0 => by
    obtain ⟨g, e, hR⟩ := hfa h0
    exact ⟨g, e, (hR.later ((Below.refl _ _).alloc (Nat.le_refl _) _)).later hb2⟩
  have hb3 : Below w.heap.size w w2 := hb1.trans ((((Below.refl _ _).alloc (Nat.le_refl _) _).trans (hb2.mono (by simp))).mono hb1.size)
  have hfw : w.heap.size ≤ w1.heap.size := hb1.size
  clear hfa hb1 hb2 hs1
  generalize w1.heap.size = fb at *
  go_wp2_with fail
  go_loopw [6] (fun i wr => ∃ k : Nat, k ≤ n + 1 ∧ i = .int .i64 k ∧ ∃ fx, wr.cell? ⟨fb, 0, none⟩ = some (.slice fx (n - k) (n - k)) ∧ wr.frozen? ⟨fb, 0, none⟩ = false ∧ (k < n → ∃ g, fx = some ⟨g, k * 4, none⟩ ∧ fa = some ⟨g, 0, none⟩) ∧ w2.grownBy wr (some fb))
    (fun i _ => n + 1 - (intOf i).toNat)
  case atStart =>
    refine ⟨0, Nat.zero_le _, rfl, fa, hfc, hff, fun h0 => ?_, World.grownBy.refl _ _⟩
    obtain ⟨g, e, _⟩ := hfa2 h0
    exact ⟨g, by simpa using e, e⟩
  case round =>
    clear hfc hff
    obtain ⟨k, hk, rfl, fx, fc, ff, hfx, hgr⟩ := hrel
    by_cases hlt : k < n
    · obtain ⟨g, rfl, e1⟩ := hfx hlt
      obtain ⟨g1, e2, hR1⟩ := hfa2 (by omega)
      obtain rfl : g1 = g := by simpa using e2.symm.trans e1
      obtain ⟨g2, e3, hR2⟩ := hoa (by omega)
      subst e1
      subst e3
      obtain ⟨m, hm⟩ : ∃ m, n - k = m + 1 := ⟨n - k - 1, by omega⟩
      rw [hm] at fc
      have ne1 := hR1.apart hF
      have ne2 := hR2.apart hF
      have d1 := hR1.done k hlt
      have d2 := hR2.done k hlt
      clear hfa2 hoa hfx e2
      generalize hel : E k = el at d1 d2
      obtain ⟨num, con, ctx, nl, bs⟩ := el
      clear hel hR1 hR2
      obtain ⟨p0', p1', p2', vp, p3', hcp⟩ := d1
      obtain ⟨q0', q1', q2', vq, q3', hcq⟩ := d2
      simp only [cls] at p0' q0' p1' p2' q1' q2' hcp hcq
      generalize clsB ctx = cl at *
      obtain ⟨pa, pc, rfl, hpn⟩ : ∃ pa pc, vp = .slice pa bs.length pc ∧ pa.isNone = nl := by
        obtain ⟨x, y, e, h1, _⟩ := hcp
        exact ⟨x, y, e, h1⟩
      obtain ⟨qa, qc, rfl, hqn⟩ : ∃ qa qc, vq = .slice qa bs.length qc ∧ qa.isNone = nl := by
        obtain ⟨x, y, e, h1, _⟩ := hcq
        exact ⟨x, y, e, h1⟩
      have p0 := cell_kept hF hgr p0' (fun _ _ _ => .inr ne1)
      have p1 := cell_kept hF hgr p1' (fun _ _ _ => .inr ne1)
      have p2 := cell_kept hF hgr p2' (fun _ _ _ => .inr ne1)
      have p3 := cell_kept hF hgr p3' (fun _ _ _ => .inr ne1)
      have hkn : (k : Int) ≤ (n : Int) := by omega
      have hkne : ((k : Int) == (n : Int)) = false := by simp; omega
      have hk0 : (k : Int) < (n : Int) := by omega
      have hfbl : fb < wr.heap.size := World.block_lt_of_cell? _ _ fc
      have hHid : Hid (∀ X, w2.grownBy ((wr.setCell ⟨fb, 0, none⟩ (.slice X m m)).alloc (elO cl num con (.slice pa bs.length pc))) (some fb)) := fun X => grown_next hgr _ _
      have HPN : Hid (pa.isNone = nl) := hpn
      have HQN : Hid (qa.isNone = nl) := hqn
      clear hpn hqn
      have H2 : Hid (w2.cell? ⟨g1, k * 4, none⟩ = some (.int .u8 cl) ∧ w2.cell? ⟨g1, k * 4 + 1, none⟩ = some (.bool con) ∧ w2.cell? ⟨g1, k * 4 + 2, none⟩ = some (.int .u32 num)) := ⟨p0', p1', p2'⟩
      have H3 : Hid (w2.cell? ⟨g2, k * 4, none⟩ = some (.int .u8 cl) ∧ w2.cell? ⟨g2, k * 4 + 1, none⟩ = some (.bool con) ∧ w2.cell? ⟨g2, k * 4 + 2, none⟩ = some (.int .u32 num) ∧ w2.cell? ⟨g2, k * 4 + 3, none⟩ = some (.slice qa bs.length qc)) := ⟨q0', q1', q2', q3'⟩
      have HM : Hid (n - k = m + 1) := hm
      clear p0' p1' p2' p3' q0' q1' q2' q3' hm
      go_wp2_with fail
      refine (next_some fb g1 (k * 4) m cl num con pa bs.length pc wr fc ff (by have := HM.out; omega) p0 p1 p2 p3).mono ?_
      rintro e wA ⟨rfl, X, hX, rfl⟩
      have HX : Hid (0 < m → X = some ⟨g1, k * 4 + 4, none⟩) := hX
      have gA := hHid.out X
      have fcA : ((wr.setCell ⟨fb, 0, none⟩ (.slice X m m)).alloc (elO cl num con (.slice pa bs.length pc))).cell? ⟨fb, 0, none⟩ = some (.slice X m m) := by go_simp
      have ffA : ((wr.setCell ⟨fb, 0, none⟩ (.slice X m m)).alloc (elO cl num con (.slice pa bs.length pc))).frozen? ⟨fb, 0, none⟩ = false := by go_simp
      have hrow : ((wr.setCell ⟨fb, 0, none⟩ (.slice X m m)).alloc (elO cl num con (.slice pa bs.length pc))).heap[wr.heap.size]? = some (elO cl num con (.slice pa bs.length pc)) := by
        have := heap_alloc_new (wr.setCell ⟨fb, 0, none⟩ (.slice X m m)) (elO cl num con (.slice pa bs.length pc))
        simpa using this
      have b5 : g1 < wr.heap.size := World.block_lt_of_cell? _ _ p0
      have hw2p : w2.heap.size ≤ wr.heap.size := hgr.size
      clear fc ff p0 p1 p2 p3 hX hgr
      generalize (wr.setCell ⟨fb, 0, none⟩ (.slice X m m)).alloc (elO cl num con (.slice pa bs.length pc)) = wA at *
      generalize wr.heap.size = pb at *
      have r0 := cell_of_row wA pb 0 _ _ _ hrow
      have r1 := cell_of_row wA pb 1 _ _ _ hrow
      have r2 := cell_of_row wA pb 2 _ _ _ hrow
      have r3 := cell_of_row wA pb 3 _ _ _ hrow
      simp only [List.getElem?_toArray, List.getElem?_cons_zero, List.getElem?_cons_succ] at r0 r1 r2 r3
      have rf := frozen_of_row wA pb 2 _ _ hrow
      have p0 := cell_kept hF gA H2.out.1 (fun _ _ _ => .inr ne1)
      have p1 := cell_kept hF gA H2.out.2.1 (fun _ _ _ => .inr ne1)
      have p2 := cell_kept hF gA H2.out.2.2 (fun _ _ _ => .inr ne1)
      have q0 := cell_kept hF gA H3.out.1 (fun _ _ _ => .inr ne2)
      have q1 := cell_kept hF gA H3.out.2.1 (fun _ _ _ => .inr ne2)
      have q2 := cell_kept hF gA H3.out.2.2.1 (fun _ _ _ => .inr ne2)
      have q3 := cell_kept hF gA H3.out.2.2.2 (fun _ _ _ => .inr ne2)
      have hcpA := hcp.kept hF gA
      have hcqA := hcq.kept hF gA
      have b1 : pb < wA.heap.size := World.block_lt_of_cell? _ _ r0
      have b2 : g1 < wA.heap.size := World.block_lt_of_cell? _ _ p0
      have b3 : g2 < wA.heap.size := World.block_lt_of_cell? _ _ q0
      have b4 : fb < wA.heap.size := World.block_lt_of_cell? _ _ fcA
      have HPb : Hid (w2.grownBy wA (some fb)) := gA
      clear hrow gA hcp hcq
      go_wp2_with fail
      have hpB := hcpA.below ((Below.refl _ _).alloc (Nat.le_refl _) (elO cl num con (.slice qa bs.length qc)))
      have hqB := hcqA.below ((Below.refl _ _).alloc (Nat.le_refl _) (elO cl num con (.slice qa bs.length qc)))
      have hpe := fun (wx : World) => Lib.run_eql_slice_nil (P := Yba.prog) wx 22 5 pa bs.length pc 0 0 Yba.underlying22
      have hqe := fun (wx : World) => Lib.run_eql_slice_nil (P := Yba.prog) wx 22 5 qa bs.length qc 0 0 Yba.underlying22
      rw [HPN.out] at hpe
      rw [HQN.out] at hqe
      have hts := tag_same
      clear hcpA hcqA
      go_quiet ((go_at_call 16; exact Calls.quiet_of_same (equal_same hpB hqB)))
      clear hpB hqB hpe hqe
      have hlen : ((m : Int) != (n : Int) - (k : Int) - 1) = false := by have := HM.out; simp; omega
      have b7 : pb ≠ g1 := by omega
      have b8 : pb ≠ fb := by omega
      go_wp2_with fail
      go_quiet (fail)
      go_wp2_with fail
      go_roundw
      case rel =>
        have hm' : n - (k + 1) = m := by have := HM.out; omega
        refine ⟨k + 1, by omega, by go_num, X, ?_, ?_, fun h => ?_, ?_⟩
        · rw [hm']; go_simp
        · go_simp
        · have := HM.out
          exact ⟨g1, (HX.out (by omega)).trans (by rw [show (k + 1) * 4 = k * 4 + 4 by omega]), rfl⟩
        · exact grown_round HPb.out hw2p _ _ _ _
      case measure => simp [intOf]; omega
    · by_cases heq : k = n
      · subst heq
        rw [Nat.sub_self] at fc
        clear hfx hfa2 hoa
        go_wp2_with fail
        refine (next_empty fb fx 0 wr fc).mono ?_
        rintro e wA ⟨rfl, rfl⟩
        go_wp2_with fail
        go_roundw
        case rel => exact ⟨k + 1, by omega, by go_num, fx, by rw [show k - (k + 1) = 0 by omega]; exact fc, ff, fun h => by omega, hgr⟩
        case measure => simp [intOf]
      · have hkn : (n : Int) < (k : Int) := by omega
        go_wp2_with fail
        go_ret
        exact ⟨rfl, hb3.grown hgr hb3.size (fun k e => by cases e; exact hfw)⟩

end Go.Proofs.Ybulkbeom
