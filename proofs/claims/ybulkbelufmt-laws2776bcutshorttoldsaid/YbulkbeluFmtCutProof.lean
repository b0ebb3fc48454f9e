/-
  THE TOLD AND TIED CARD OF LawS2776BCutShort, PROVED: 'Rows.LawS2776BCutShortToldSaid'. The walks: YbulkbeluFmtCut.lean, for every F, taken at F.told (the law's answer does not hang on fmt's text). The tie: given (YbulkbeluFmtTie.lean).
-/
import Derived.Test.YbulkbeluFmtRows
import Derived.Test.YbulkbeluFmtTie
import Derived.Test.YbulkbeluFmtCards
import Derived.Test.YbulkbeluFmtCut
import Derived.ProofKit
import Derived.Stop.JoinedAt
import Derived.Stop.Texts
import Derived.Stop.LaidErr
import Derived.Stop.LaidTwo
import Derived.Stop.JoinedTold
import Derived.SevenTiedAt
namespace Go.Proofs.YbulkbeluFmt
open Go.ChangeShapes Go.WideShapes Go.ChangeAt Go.RowKit Go.Kit
open Go.Extern.Stop Go.Stop Go.Extern

theorem own : ownKnob Ybaf.prog.godebug = none := by kernel_rfl
theorem laidOut : laidOutB Ybaf.pinned.checked.prog = true := by kernel_rfl
theorem stopKnobs : Ybaf.pinned.checked.prog.stopKnobs = [] := by kernel_rfl
theorem stopsQuiet (os : Os) : Stop.quiet Ybaf.pinned.checked.prog os := by
  intro k hk
  rw [stopKnobs] at hk
  cases hk
theorem gEType : (Ybaf.prog.globals[0]?).map (·.type) = some 33 := by kernel_rfl
theorem gUType : (Ybaf.prog.globals[1]?).map (·.type) = some 33 := by kernel_rfl
theorem gE : Ybaf.prog.globalNamed "io.EOF" = some 0 := by kernel_rfl
theorem gU : Ybaf.prog.globalNamed "io.ErrUnexpectedEOF" = some 1 := by kernel_rfl
theorem cells81 : Ybaf.prog.cellsOf 81 = 1 := by kernel_rfl
theorem cells9 : Ybaf.prog.cellsOf 9 = 1 := by kernel_rfl
theorem star : "*" ++ "errors.errorString" = "*errors.errorString" := by decide
theorem row79 (u : TypeId) (h : Ybaf.prog.typeName? 3 u = some "*errors.errorString") : u = 79 :=
  typeName_ptr_named (nm := "errors.errorString") (by rw [star]; kernel_rfl) (by kernel_rfl) (by decide) u (by rw [star]; exact h)

/-- A world with the two variables' cells laid. -/
def put2 (w0 : World) (low : Nat) : World :=
  { w0 with heap := (w0.heap.modify 0 fun
      | .cells _ t frozen => .cells #[.iface 79 (.pointer (some ⟨low, 0, none⟩))] t frozen
      | o => o).modify 1 fun
      | .cells _ t frozen => .cells #[.iface 79 (.pointer (some ⟨low + 1, 0, none⟩))] t frozen
      | o => o }
abbrev eofS : ByteArray := { data := #[69, 79, 70] }
abbrev unS : ByteArray := { data := #[117, 110, 101, 120, 112, 101, 99, 116, 101, 100, 32, 69, 79, 70] }
abbrev two2 : Input := ⟨#[.cells #[.string eofS] 81, .cells #[.string unS] 81], #[], []⟩
theorem laid_met (os : Os) (args : Array Value) :
    laidMet Ybaf.prog Rows.lawS2776BCutShortRow.laid ((put2 (World.holding Ybaf.prog os two2) (World.holding Ybaf.prog default ⟨#[], #[], []⟩).heap.size).forCall (fun _ _ => 0) ⟨#[], args, []⟩).memory :=
  laidMet_of_run (ps := [.cell 0 0, .cell (World.holding Ybaf.prog default ⟨#[], #[], []⟩).heap.size 0, .cell 1 0, .cell ((World.holding Ybaf.prog default ⟨#[], #[], []⟩).heap.size + 1) 0]) 8 (by kernel_rfl) (by kernel_rfl) (by kernel_rfl)

theorem u8_bounds {x : Int} (h : (Lit.int .u8 x).wf = true) : 0 ≤ x ∧ x ≤ 255 := by
  simp [Lit.wf, IntKind.min, IntKind.max, IntKind.signed, IntKind.bits] at h
  omega

set_option maxRecDepth 100000 in
theorem cut_lifted (os : Os) (started : os.Started) (H : Type) (enc : TypeId × Value → H) :
    ReturnsInTold none {} Ybaf.checked os 3 .any Input.okWide ((OpenSpec.ofChange Rows.lawS2776BCutShortSpec).preRow enc Ybaf.prog Ybaf.f3 [] false Rows.lawS2776BCutShortRow.laid)
      (fun F => ((OpenSpec.ofChange Rows.lawS2776BCutShortSpec).at F).post enc Ybaf.prog Ybaf.f3 false true false false) (aloneAtReturn Ybaf.prog) nothingAlways := by
  refine returnsInTold_of_row (C := Ybaf.checked) (s := OpenSpec.ofChange Rows.lawS2776BCutShortSpec) (by kernel_rfl) own started (by kernel_rfl) Ybaf.func3
    (OpenSpec.witness_stopped_at (enc := enc) (C := Ybaf.checked) false (put2 (World.holding Ybaf.prog os two2) (World.holding Ybaf.prog default ⟨#[], #[], []⟩).heap.size) #[.int .i64 0, .int .u8 0] rfl (by kernel_rfl) (by kernel_rfl) (by kernel_rfl)
      (OpenSpec.preRow_of_B rfl 8 (by kernel_rfl) (by kernel_rfl) (laid_met os _))) ?_
  intro F W base args ds gs before _ hF hval0 hW _ _ _ hL _
  have hval : ∀ (j : Nat) t v, Ybaf.f3.params[j]? = some t → args[j]? = some v → Value.okWide Ybaf.prog W .any base t v := hval0
  have hW' := hW
  obtain ⟨p, q, hA0, hV0, rfl, hfz, hnd⟩ := hW
  have hA : DataW.TrodAll enc Ybaf.prog W 0 (fun _ => true) true Ybaf.f3.params.toList args.toList ds p := hA0
  rw [Ybaf.params3] at hA hval
  obtain ⟨v0, v1, d0, d1, p0, p1, rfl, rfl, rfl, h0, h1⟩ := trodAll_two hA
  obtain ⟨rfl, rfl⟩ := trodVars_none hV0
  obtain ⟨n, rfl, rfl, rfl, wn⟩ := open_int Ybaf.underlying3 (hval 0 3 v0 rfl rfl) h0
  obtain ⟨sel, rfl, rfl, rfl, ws⟩ := open_int Ybaf.underlying5 (hval 1 5 v1 rfl rfl) h1
  obtain ⟨a0, a1, s0, s1, c0, c1, t0, t1, hv0, hv1, hc0, hs0, hz0, hc1, hs1, hz1, hne, hb0, hb1⟩ := laid_sentinels2 hL gE gEType gU gUType Ybaf.underlying33 row79 Ybaf.underlying79 Ybaf.underlying81 rfl rfl Ybaf.underlying9 cells81 cells9
  have hg0 : W.cell? ⟨0, 0, none⟩ = some (.iface 79 (.pointer (some a0))) := by simpa using World.var?_cell gE hv0 0
  have hg1 : W.cell? ⟨1, 0, none⟩ = some (.iface 79 (.pointer (some a1))) := by simpa using World.var?_cell gU hv1 0
  have two : Two a0 a1 s1 c0 c1 t0 t1 W := ⟨hg0, hg1, hc1, hne, hb0, hb1⟩
  obtain ⟨b0, b1⟩ := u8_bounds ws
  clear hA0 hV0 hval0
  have fin : ∀ (e : Ending) (W' : World), (e = .returned (.bool true) ∧ Below W.heap.size W W') → ∃ v, e = .returned v ∧ ((OpenSpec.ofChange Rows.lawS2776BCutShortSpec).at F.told).post enc Ybaf.checked.prog Ybaf.f3 false true false false W #[.int .i64 n, .int .u8 sel] v W' := by
    rintro e W' ⟨rfl, bel⟩
    refine ⟨_, rfl, _, _, _, [], [], [], hW', ?_, ?_, ?_, bel.frame _, fun h => by cases h⟩
    · exact trodAll_mk1 (shut_bool Ybaf.underlying4 _)
    · exact trodAll_mk2 (shut_int Ybaf.underlying3 wn) (shut_int Ybaf.underlying5 ws)
    · rfl
  cases hsel : (sel % 2 == 1) with
  | true => exact (cut_odd F.told n sel a0 a1 s1 c0 c1 t0 t1 W hF two hsel b0 b1).mono fin
  | false => exact (cut_even F.told n sel a0 a1 s1 c0 c1 t0 t1 W hF two hsel b0 b1).mono fin

theorem cutShort_told : Rows.LawS2776BCutShortToldSaid :=
  Claim7.holds_of_told_tied_any_at .later 3 Ybaf.f3 _ [] [] _ _ _ _ _ (by kernel_rfl) rfl rfl rfl laidOut (by kernel_rfl) rfl ⟨rfl, rfl, rfl, rfl, rfl, rfl, rfl⟩ rfl rfl (by kernel_rfl) (by kernel_rfl) Ybaf.func3 (by kernel_rfl)
    (of_decide_eq_true (by kernel_rfl)) (of_decide_eq_true (by kernel_rfl)) (by kernel_rfl) rfl stopKnobs.symm (by kernel_rfl)
    (by kernel_rfl) (by kernel_rfl) (by kernel_rfl) (by kernel_rfl) (by kernel_rfl) (by kernel_rfl) (by kernel_rfl) (by kernel_rfl) (by kernel_rfl) rfl (by kernel_rfl) rfl rfl
    rfl rfl
    rfl (by kernel_rfl) (by kernel_rfl) (by kernel_rfl) (by decide) (by kernel_rfl) lawS2776BCutShort_row_tie
    (OpenClaim.moreEntering_of (by kernel_rfl) (by kernel_rfl) (by kernel_rfl) (by kernel_rfl) (by kernel_rfl) (by kernel_rfl) (by kernel_rfl) (by kernel_rfl) (by kernel_rfl) (by kernel_rfl))
    ⟨_, WideRow.started_initial, stopsQuiet _⟩
    (fun os started _ H enc _ => cut_lifted os started H enc)

#print axioms cutShort_told
end Go.Proofs.YbulkbeluFmt
