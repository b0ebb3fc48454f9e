/-
  (*Reader).recordError at io.EOF and at io.ErrUnexpectedEOF, and the law LawS2776BCutShort, WALKED, for every F.
-/
import Derived.Test.YbulkbeluFmtIs
import Derived.Test.YbulkbeluFmtDoor
import Derived.Deep.RegionWith
import Derived.Deep.QuietTactic
import Derived.BigQuiet
import Derived.Below
namespace Go.Proofs.YbulkbeluFmt
open Go.RowKit Go.Extern.Stop Go.Stop Go.Extern

theorem heap_old {w : World} {k : Nat} {x : Obj} (h : w.heap[k]? = some x) : k < w.heap.size := by
  rcases Nat.lt_or_ge k w.heap.size with h' | h'
  · exact h'
  · simp [Array.getElem?_eq_none h'] at h

/-- What is known of the two sentinels: they lie at two places. -/
structure Two (a0 a1 : Addr) (s1 : ByteArray) (c0 c1 : Array Value) (t0 t1 : TypeId) (w : World) : Prop where
  g0 : w.cell? ⟨0, 0, none⟩ = some (.iface 79 (.pointer (some a0)))
  g1 : w.cell? ⟨1, 0, none⟩ = some (.iface 79 (.pointer (some a1)))
  s : w.cell? a1 = some (.string s1)
  ne : a0 ≠ a1
  b0 : w.heap[a0.block]? = some (.cells c0 t0 (0, 0))
  b1 : w.heap[a1.block]? = some (.cells c1 t1 (0, 0))

theorem Two.below {a0 a1 : Addr} {s1 : ByteArray} {c0 c1 : Array Value} {t0 t1 : TypeId} {w w' : World} (h : Two a0 a1 s1 c0 c1 t0 t1 w) (hb : Below w.heap.size w w') : Two a0 a1 s1 c0 c1 t0 t1 w' :=
  ⟨(hb.cell (World.block_lt_of_cell? _ _ h.g0)).trans h.g0, (hb.cell (World.block_lt_of_cell? _ _ h.g1)).trans h.g1, (hb.cell (World.block_lt_of_cell? _ _ h.s)).trans h.s, h.ne,
    (hb.block _ (heap_old h.b0)).trans h.b0, (hb.block _ (heap_old h.b1)).trans h.b1⟩

set_option maxHeartbeats 800000 in
theorem record_eof (F : Interp) (n : Int) (rb : Nat) (a0 a1 : Addr) (s1 : ByteArray) (c0 c1 : Array Value) (t0 t1 : TypeId) (w : World) (hF : F.answers w.tape) (h : Two a0 a1 s1 c0 c1 t0 t1 w)
    (hr : w.cell? ⟨rb, 4, none⟩ = some (.int .i64 n)) :
    Calls Ybaf.prog 5 #[.pointer (some ⟨rb, 0, none⟩), .iface 79 (.pointer (some a0))] w fun e w' => e = .returned (.iface 64 (.pointer (some ⟨w.heap.size + 1, 0, none⟩))) ∧
      Below w.heap.size w w' ∧ w'.cell? ⟨w.heap.size + 1, 1, none⟩ = some (.iface 79 (.pointer (some a1))) := by
  obtain ⟨g0, g1, hs, hne, hb0, hb1⟩ := h
  obtain ⟨i, hi, hcmp⟩ := Option.map_eq_some_iff.1 isComp
  obtain ⟨j, hj, hjs⟩ := Option.map_eq_some_iff.1 isSize
  have heq := run_eql_iface_ptr_same (P := Ybaf.prog) w a0 Ybaf.underlying33 Ybaf.underlying79 hi hcmp hj
  have ha1 : a1.block < w.heap.size := World.block_lt_of_cell? _ _ hs
  go_enter Ybaf.func5, Ybaf.ntmps5
  go_wp2
  go_region_with (first
    | (go_at_call 9; refine (errorf9 F n a1 s1 w.heap.size _ ?_ ?_ ?_ ?_).mono ?_; exact hF; go_simp; go_simp; exact (World.cell?_alloc_lt _ _ _ ha1).trans hs; rintro e w' ⟨rfl, t, rfl⟩))
  all_goals (try go_wp2)
  all_goals go_ret
  all_goals exact ⟨rfl, (((Below.refl _ _).alloc (Nat.le_refl _) _).alloc (by simp) _).drew.drew, by go_simp⟩

set_option maxHeartbeats 800000 in
theorem record_uneof (F : Interp) (n : Int) (rb : Nat) (a0 a1 : Addr) (s1 : ByteArray) (c0 c1 : Array Value) (t0 t1 : TypeId) (w : World) (hF : F.answers w.tape) (h : Two a0 a1 s1 c0 c1 t0 t1 w)
    (hr : w.cell? ⟨rb, 4, none⟩ = some (.int .i64 n)) :
    Calls Ybaf.prog 5 #[.pointer (some ⟨rb, 0, none⟩), .iface 79 (.pointer (some a1))] w fun e w' => e = .returned (.iface 64 (.pointer (some ⟨w.heap.size + 1, 0, none⟩))) ∧
      Below w.heap.size w w' ∧ w'.cell? ⟨w.heap.size + 1, 1, none⟩ = some (.iface 79 (.pointer (some a1))) := by
  obtain ⟨g0, g1, hs, hne, hb0, hb1⟩ := h
  obtain ⟨i, hi, hcmp⟩ := Option.map_eq_some_iff.1 isComp
  obtain ⟨j, hj, hjs⟩ := Option.map_eq_some_iff.1 isSize
  have heq := run_eql_iface_ptr_same (P := Ybaf.prog) w a1 Ybaf.underlying33 Ybaf.underlying79 hi hcmp hj
  have hno := run_eql_iface_ptr_other (P := Ybaf.prog) w Ybaf.underlying33 Ybaf.underlying79 hi hcmp hj (by rw [hjs]; decide) (Ne.symm hne) hb1 hb0
  have ha1 : a1.block < w.heap.size := World.block_lt_of_cell? _ _ hs
  go_enter Ybaf.func5, Ybaf.ntmps5
  go_wp2
  go_region_with (first
    | (go_at_call 9; refine (errorf9 F n a1 s1 w.heap.size _ ?_ ?_ ?_ ?_).mono ?_; exact hF; go_simp; go_simp; exact (World.cell?_alloc_lt _ _ _ ha1).trans hs; rintro e w' ⟨rfl, t, rfl⟩))
  all_goals (try go_wp2)
  all_goals go_ret
  all_goals exact ⟨rfl, (((Below.refl _ _).alloc (Nat.le_refl _) _).alloc (by simp) _).drew.drew, by go_simp⟩

/-- 'x != x' at an interface's type, x a pointer. -/
theorem run_neq_iface_ptr_same {P : Program} (w : World) {ti tp te : TypeId} {ms : Array (String × TypeId)} {i j : TypeInfo} (a : Addr)
    (hi : P.underlying ti = some (.interface ms)) (hp : P.underlying tp = some (.pointer te)) (hinfo : P.info? tp = some i) (hcomp : i.comparable = true) (hte : P.info? te = some j) :
    (binOp .neq ti (.iface tp (.pointer (some a))) (.iface tp (.pointer (some a)))).run P w = .ok (.bool false) w := by
  simp only [binOp]
  simp [Op.equal, Op.maxDepth, run_equalIn_iface_ptr_same w 9998 a hi hp hinfo hcomp hte]

theorem below_drewN {B : Nat} {a w : World} (h : Below B a w) (n : Nat) : Below B a (w.drewN n) := ⟨h.os, h.tape, h.output, h.size, h.block⟩

/-- The law behind recordError: three questions to the new error, one to the receiver. -/
abbrev readerCells (n : Int) : Array Value := #[.nilIface, .nilIface, .bool false, .int .u16 0, .int .i64 n, .slice none 0 0, .int .i64 0]

set_option maxHeartbeats 1600000 in
theorem cut_even (F : Interp) (n sel : Int) (a0 a1 : Addr) (s1 : ByteArray) (c0 c1 : Array Value) (t0 t1 : TypeId) (w : World) (hF : F.answers w.tape) (h : Two a0 a1 s1 c0 c1 t0 t1 w)
    (hsel : (sel % 2 == 1) = false) (h0 : 0 ≤ sel) (h1 : sel ≤ 255) :
    Calls Ybaf.prog 3 #[.int .i64 n, .int .u8 sel] w fun e w' => e = .returned (.bool true) ∧ Below w.heap.size w w' := by
  have g0 := h.g0
  have g1 := h.g1
  have z0 : 0 < w.heap.size := World.block_lt_of_cell? _ _ g0
  have z1 : 1 < w.heap.size := World.block_lt_of_cell? _ _ g1
  go_enter Ybaf.func3, Ybaf.ntmps3
  go_wp2_with fail
  refine (record_eof F n w.heap.size a0 a1 s1 c0 c1 t0 t1 (w.alloc (.cells (readerCells n) 31)) (by exact hF) (h.below ((Below.refl _ _).alloc (Nat.le_refl _) _)) (by go_simp)).mono ?_
  rintro e w1 ⟨rfl, hb1, hc1⟩
  have h2 : Two a0 a1 s1 c0 c1 t0 t1 w1 := (h.below ((Below.refl _ _).alloc (Nat.le_refl _) _)).below hb1
  simp only [World.size_alloc] at hb1 hc1
  have hrec : w1.cell? ⟨w.heap.size, 4, none⟩ = some (.int .i64 n) := by
    rw [hb1.cell (by simp)]
    go_simp
  have k0 := h2.g0
  have k1 := h2.g1
  have hbe : Below w.heap.size w w1 := ((Below.refl _ _).alloc (Nat.le_refl _) _).trans (hb1.mono (by simp))
  clear hb1
  obtain ⟨i, hi, hcmp⟩ := Option.map_eq_some_iff.1 isComp
  obtain ⟨j, hj, hjs⟩ := Option.map_eq_some_iff.1 isSize
  go_wp2_with fail
  refine (is_wrap_same _ 0 a1 w1 hc1).mono ?_
  rintro e w2 ⟨rfl, rfl⟩
  go_wp2_with fail
  refine (is_wrap_other _ 0 a0 a1 c1 c0 t1 t0 w2 hc1 (Ne.symm h.ne) h2.b1 h2.b0).mono ?_
  rintro e w3 ⟨rfl, rfl⟩
  go_wp2_with fail
  have hneq := fun (wx : World) => run_neq_iface_ptr_same (P := Ybaf.prog) wx a1 Ybaf.underlying33 Ybaf.underlying79 hi hcmp hj
  go_quiet ((go_at_call 7; exact Calls.quiet_of_same (unwrap_wrap _ 0 _ _ _ rfl hc1)))
  go_wp2
  go_ret
  exact ⟨by simp, below_drewN hbe _⟩

set_option maxHeartbeats 1600000 in
theorem cut_odd (F : Interp) (n sel : Int) (a0 a1 : Addr) (s1 : ByteArray) (c0 c1 : Array Value) (t0 t1 : TypeId) (w : World) (hF : F.answers w.tape) (h : Two a0 a1 s1 c0 c1 t0 t1 w)
    (hsel : (sel % 2 == 1) = true) (h0 : 0 ≤ sel) (h1 : sel ≤ 255) :
    Calls Ybaf.prog 3 #[.int .i64 n, .int .u8 sel] w fun e w' => e = .returned (.bool true) ∧ Below w.heap.size w w' := by
  have g0 := h.g0
  have g1 := h.g1
  have z0 : 0 < w.heap.size := World.block_lt_of_cell? _ _ g0
  have z1 : 1 < w.heap.size := World.block_lt_of_cell? _ _ g1
  go_enter Ybaf.func3, Ybaf.ntmps3
  go_wp2_with fail
  refine (record_uneof F n w.heap.size a0 a1 s1 c0 c1 t0 t1 (w.alloc (.cells (readerCells n) 31)) (by exact hF) (h.below ((Below.refl _ _).alloc (Nat.le_refl _) _)) (by go_simp)).mono ?_
  rintro e w1 ⟨rfl, hb1, hc1⟩
  have h2 : Two a0 a1 s1 c0 c1 t0 t1 w1 := (h.below ((Below.refl _ _).alloc (Nat.le_refl _) _)).below hb1
  simp only [World.size_alloc] at hb1 hc1
  have hrec : w1.cell? ⟨w.heap.size, 4, none⟩ = some (.int .i64 n) := by
    rw [hb1.cell (by simp)]
    go_simp
  have k0 := h2.g0
  have k1 := h2.g1
  have hbe : Below w.heap.size w w1 := ((Below.refl _ _).alloc (Nat.le_refl _) _).trans (hb1.mono (by simp))
  clear hb1
  obtain ⟨i, hi, hcmp⟩ := Option.map_eq_some_iff.1 isComp
  obtain ⟨j, hj, hjs⟩ := Option.map_eq_some_iff.1 isSize
  go_wp2_with fail
  refine (is_wrap_same _ 0 a1 w1 hc1).mono ?_
  rintro e w2 ⟨rfl, rfl⟩
  go_wp2_with fail
  refine (is_wrap_other _ 0 a0 a1 c1 c0 t1 t0 w2 hc1 (Ne.symm h.ne) h2.b1 h2.b0).mono ?_
  rintro e w3 ⟨rfl, rfl⟩
  go_wp2_with fail
  have hneq := fun (wx : World) => run_neq_iface_ptr_same (P := Ybaf.prog) wx a1 Ybaf.underlying33 Ybaf.underlying79 hi hcmp hj
  go_quiet ((go_at_call 7; exact Calls.quiet_of_same (unwrap_wrap _ 0 _ _ _ rfl hc1)))
  go_wp2
  go_ret
  exact ⟨by simp, below_drewN hbe _⟩


end Go.Proofs.YbulkbeluFmt
