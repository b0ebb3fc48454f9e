/-
  LawS2787AModel, WALKED, AND THE ROW's STEP: 'Rows.LawS2787AModelSaid', PROVED.
-/
import Derived.Test.YbulkbersRows
import Derived.Test.YbulkbersModel
import Derived.ProofKit
import Derived.OpenShut
import Derived.ChangeOld
import Derived.Below
import Derived.Deep.Slices
namespace Go.Proofs.Ybulkbers
open Go.ChangeShapes Go.WideShapes Go.ChangeAt Go.RowKit
set_option linter.unusedVariables false

theorem own : ownKnob Yba.prog.godebug = none := by kernel_rfl
theorem laidOut : laidOutB Yba.prog = true := by kernel_rfl
theorem cells29 : Yba.prog.cellsOf 29 = 2 := by kernel_rfl
theorem cells22 : Yba.prog.cellsOf 22 = 1 := by kernel_rfl

set_option maxRecDepth 100000 in
set_option maxHeartbeats 1600000 in
theorem law_wide (sel mod n : Int) (neg : Bool) (a : Option Addr) (len cap : Nat) (w : World) (hl : 1024 < len) :
    Calls Yba.prog 3 #[.int .u8 sel, .int .u64 mod, .bool neg, .slice a len cap, .int .u64 n] w fun e w' => e = .returned (.bool true) ∧ Below w.heap.size w w' := by
  go_enter Yba.func3, Yba.ntmps3
  go_wp2_with fail
  go_ret
  exact ⟨rfl, Below.refl _ _⟩

set_option maxRecDepth 100000 in
set_option maxHeartbeats 1600000 in
theorem law_0 (sel mod n : Int) (neg : Bool) (a : Option Addr) (len cap : Nat) (R : Nat → Int × Int) (w : World) (h : Rng w a len R) (hl : len ≤ 1024) (n0 : 0 ≤ n) (n1 : n ≤ 18446744073709551615) (m0 : 0 ≤ mod) (m1 : mod ≤ 18446744073709551615) (s0 : 0 ≤ sel) (s1 : sel ≤ 255) (hs : sel % 8 = 0) :
    Calls Yba.prog 3 #[.int .u8 sel, .int .u64 mod, .bool neg, .slice a len cap, .int .u64 n] w fun e w' => e = .returned (.bool true) ∧ Below w.heap.size w w' := by
  go_enter Yba.func3, Yba.ntmps3
  go_wp2_with fail
  refine (holds5 _ mod n neg a len cap R _ (h.below ((Below.refl _ _).alloc (Nat.le_refl _) _)) hl n0 n1 m0 m1).mono ?_
  rintro e w1 ⟨rfl, hb⟩
  have hbe := ((Below.refl w.heap.size w).alloc (Nat.le_refl _) _).trans (hb.mono (by simp))
  clear hb
  go_wp2_with fail
  refine (model6 _ mod n neg a len cap R w1 (h.below hbe) hl n0 n1 m0 m1).mono ?_
  rintro e w2 ⟨rfl, rfl⟩
  generalize (anyB _ R len != neg) = r
  go_wp2_with fail
  go_ret
  exact ⟨by simp, hbe⟩

set_option maxRecDepth 100000 in
set_option maxHeartbeats 1600000 in
theorem law_1 (sel mod n : Int) (neg : Bool) (a : Option Addr) (len cap : Nat) (R : Nat → Int × Int) (w : World) (h : Rng w a len R) (hl : len ≤ 1024) (n0 : 0 ≤ n) (n1 : n ≤ 18446744073709551615) (m0 : 0 ≤ mod) (m1 : mod ≤ 18446744073709551615) (s0 : 0 ≤ sel) (s1 : sel ≤ 255) (hs : sel % 8 = 1) :
    Calls Yba.prog 3 #[.int .u8 sel, .int .u64 mod, .bool neg, .slice a len cap, .int .u64 n] w fun e w' => e = .returned (.bool true) ∧ Below w.heap.size w w' := by
  go_enter Yba.func3, Yba.ntmps3
  go_wp2_with fail
  refine (holds5 _ mod n neg a len cap R _ (h.below ((Below.refl _ _).alloc (Nat.le_refl _) _)) hl n0 n1 m0 m1).mono ?_
  rintro e w1 ⟨rfl, hb⟩
  have hbe := ((Below.refl w.heap.size w).alloc (Nat.le_refl _) _).trans (hb.mono (by simp))
  clear hb
  go_wp2_with fail
  refine (model6 _ mod n neg a len cap R w1 (h.below hbe) hl n0 n1 m0 m1).mono ?_
  rintro e w2 ⟨rfl, rfl⟩
  generalize (anyB _ R len != neg) = r
  go_wp2_with fail
  go_ret
  exact ⟨by simp, hbe⟩

set_option maxRecDepth 100000 in
set_option maxHeartbeats 1600000 in
theorem law_2 (sel mod n : Int) (neg : Bool) (a : Option Addr) (len cap : Nat) (R : Nat → Int × Int) (w : World) (h : Rng w a len R) (hl : len ≤ 1024) (n0 : 0 ≤ n) (n1 : n ≤ 18446744073709551615) (m0 : 0 ≤ mod) (m1 : mod ≤ 18446744073709551615) (s0 : 0 ≤ sel) (s1 : sel ≤ 255) (hs : sel % 8 = 2) :
    Calls Yba.prog 3 #[.int .u8 sel, .int .u64 mod, .bool neg, .slice a len cap, .int .u64 n] w fun e w' => e = .returned (.bool true) ∧ Below w.heap.size w w' := by
  go_enter Yba.func3, Yba.ntmps3
  go_wp2_with fail
  refine (holds5 _ mod n neg a len cap R _ (h.below ((Below.refl _ _).alloc (Nat.le_refl _) _)) hl n0 n1 m0 m1).mono ?_
  rintro e w1 ⟨rfl, hb⟩
  have hbe := ((Below.refl w.heap.size w).alloc (Nat.le_refl _) _).trans (hb.mono (by simp))
  clear hb
  go_wp2_with fail
  refine (model6 _ mod n neg a len cap R w1 (h.below hbe) hl n0 n1 m0 m1).mono ?_
  rintro e w2 ⟨rfl, rfl⟩
  generalize (anyB _ R len != neg) = r
  go_wp2_with fail
  go_ret
  exact ⟨by simp, hbe⟩

set_option maxRecDepth 100000 in
set_option maxHeartbeats 1600000 in
theorem law_3 (sel mod n : Int) (neg : Bool) (a : Option Addr) (len cap : Nat) (R : Nat → Int × Int) (w : World) (h : Rng w a len R) (hl : len ≤ 1024) (n0 : 0 ≤ n) (n1 : n ≤ 18446744073709551615) (m0 : 0 ≤ mod) (m1 : mod ≤ 18446744073709551615) (s0 : 0 ≤ sel) (s1 : sel ≤ 255) (hs : sel % 8 = 3) :
    Calls Yba.prog 3 #[.int .u8 sel, .int .u64 mod, .bool neg, .slice a len cap, .int .u64 n] w fun e w' => e = .returned (.bool true) ∧ Below w.heap.size w w' := by
  go_enter Yba.func3, Yba.ntmps3
  go_wp2_with fail
  refine (holds5 _ mod n neg a len cap R _ (h.below ((Below.refl _ _).alloc (Nat.le_refl _) _)) hl n0 n1 m0 m1).mono ?_
  rintro e w1 ⟨rfl, hb⟩
  have hbe := ((Below.refl w.heap.size w).alloc (Nat.le_refl _) _).trans (hb.mono (by simp))
  clear hb
  go_wp2_with fail
  refine (model6 _ mod n neg a len cap R w1 (h.below hbe) hl n0 n1 m0 m1).mono ?_
  rintro e w2 ⟨rfl, rfl⟩
  generalize (anyB _ R len != neg) = r
  go_wp2_with fail
  go_ret
  exact ⟨by simp, hbe⟩

set_option maxRecDepth 100000 in
set_option maxHeartbeats 1600000 in
theorem law_4 (sel mod n : Int) (neg : Bool) (a : Option Addr) (len cap : Nat) (R : Nat → Int × Int) (w : World) (h : Rng w a len R) (hl : len ≤ 1024) (n0 : 0 ≤ n) (n1 : n ≤ 18446744073709551615) (m0 : 0 ≤ mod) (m1 : mod ≤ 18446744073709551615) (s0 : 0 ≤ sel) (s1 : sel ≤ 255) (hs : sel % 8 = 4) :
    Calls Yba.prog 3 #[.int .u8 sel, .int .u64 mod, .bool neg, .slice a len cap, .int .u64 n] w fun e w' => e = .returned (.bool true) ∧ Below w.heap.size w w' := by
  go_enter Yba.func3, Yba.ntmps3
  go_wp2_with fail
  refine (holds5 _ mod n neg a len cap R _ (h.below ((Below.refl _ _).alloc (Nat.le_refl _) _)) hl n0 n1 m0 m1).mono ?_
  rintro e w1 ⟨rfl, hb⟩
  have hbe := ((Below.refl w.heap.size w).alloc (Nat.le_refl _) _).trans (hb.mono (by simp))
  clear hb
  go_wp2_with fail
  refine (model6 _ mod n neg a len cap R w1 (h.below hbe) hl n0 n1 m0 m1).mono ?_
  rintro e w2 ⟨rfl, rfl⟩
  generalize (anyB _ R len != neg) = r
  go_wp2_with fail
  go_ret
  exact ⟨by simp, hbe⟩

set_option maxRecDepth 100000 in
set_option maxHeartbeats 1600000 in
theorem law_5 (sel mod n : Int) (neg : Bool) (a : Option Addr) (len cap : Nat) (R : Nat → Int × Int) (w : World) (h : Rng w a len R) (hl : len ≤ 1024) (n0 : 0 ≤ n) (n1 : n ≤ 18446744073709551615) (m0 : 0 ≤ mod) (m1 : mod ≤ 18446744073709551615) (s0 : 0 ≤ sel) (s1 : sel ≤ 255) (hs : sel % 8 = 5) :
    Calls Yba.prog 3 #[.int .u8 sel, .int .u64 mod, .bool neg, .slice a len cap, .int .u64 n] w fun e w' => e = .returned (.bool true) ∧ Below w.heap.size w w' := by
  go_enter Yba.func3, Yba.ntmps3
  go_wp2_with fail
  refine (holds5 _ mod n neg a len cap R _ (h.below ((Below.refl _ _).alloc (Nat.le_refl _) _)) hl n0 n1 m0 m1).mono ?_
  rintro e w1 ⟨rfl, hb⟩
  have hbe := ((Below.refl w.heap.size w).alloc (Nat.le_refl _) _).trans (hb.mono (by simp))
  clear hb
  go_wp2_with fail
  refine (model6 _ mod n neg a len cap R w1 (h.below hbe) hl n0 n1 m0 m1).mono ?_
  rintro e w2 ⟨rfl, rfl⟩
  generalize (anyB _ R len != neg) = r
  go_wp2_with fail
  go_ret
  exact ⟨by simp, hbe⟩

set_option maxRecDepth 100000 in
set_option maxHeartbeats 1600000 in
theorem law_6 (sel mod n : Int) (neg : Bool) (a : Option Addr) (len cap : Nat) (R : Nat → Int × Int) (w : World) (h : Rng w a len R) (hl : len ≤ 1024) (n0 : 0 ≤ n) (n1 : n ≤ 18446744073709551615) (m0 : 0 ≤ mod) (m1 : mod ≤ 18446744073709551615) (s0 : 0 ≤ sel) (s1 : sel ≤ 255) (hs : sel % 8 = 6) :
    Calls Yba.prog 3 #[.int .u8 sel, .int .u64 mod, .bool neg, .slice a len cap, .int .u64 n] w fun e w' => e = .returned (.bool true) ∧ Below w.heap.size w w' := by
  go_enter Yba.func3, Yba.ntmps3
  go_wp2_with fail
  refine (holds5 _ mod n neg a len cap R _ (h.below ((Below.refl _ _).alloc (Nat.le_refl _) _)) hl n0 n1 m0 m1).mono ?_
  rintro e w1 ⟨rfl, hb⟩
  have hbe := ((Below.refl w.heap.size w).alloc (Nat.le_refl _) _).trans (hb.mono (by simp))
  clear hb
  go_wp2_with fail
  refine (model6 _ mod n neg a len cap R w1 (h.below hbe) hl n0 n1 m0 m1).mono ?_
  rintro e w2 ⟨rfl, rfl⟩
  generalize (anyB _ R len != neg) = r
  go_wp2_with fail
  go_ret
  exact ⟨by simp, hbe⟩

set_option maxRecDepth 100000 in
set_option maxHeartbeats 1600000 in
theorem law_7 (sel mod n : Int) (neg : Bool) (a : Option Addr) (len cap : Nat) (R : Nat → Int × Int) (w : World) (h : Rng w a len R) (hl : len ≤ 1024) (n0 : 0 ≤ n) (n1 : n ≤ 18446744073709551615) (m0 : 0 ≤ mod) (m1 : mod ≤ 18446744073709551615) (s0 : 0 ≤ sel) (s1 : sel ≤ 255) (hs : sel % 8 = 7) :
    Calls Yba.prog 3 #[.int .u8 sel, .int .u64 mod, .bool neg, .slice a len cap, .int .u64 n] w fun e w' => e = .returned (.bool true) ∧ Below w.heap.size w w' := by
  go_enter Yba.func3, Yba.ntmps3
  go_wp2_with fail
  refine (holds5 _ mod n neg a len cap R _ (h.below ((Below.refl _ _).alloc (Nat.le_refl _) _)) hl n0 n1 m0 m1).mono ?_
  rintro e w1 ⟨rfl, hb⟩
  have hbe := ((Below.refl w.heap.size w).alloc (Nat.le_refl _) _).trans (hb.mono (by simp))
  clear hb
  go_wp2_with fail
  refine (model6 _ mod n neg a len cap R w1 (h.below hbe) hl n0 n1 m0 m1).mono ?_
  rintro e w2 ⟨rfl, rfl⟩
  generalize (anyB _ R len != neg) = r
  go_wp2_with fail
  go_ret
  exact ⟨by simp, hbe⟩

theorem law_some (sel mod n : Int) (neg : Bool) (a : Option Addr) (len cap : Nat) (R : Nat → Int × Int) (w : World) (h : Rng w a len R) (hl : len ≤ 1024) (n0 : 0 ≤ n) (n1 : n ≤ 18446744073709551615) (m0 : 0 ≤ mod) (m1 : mod ≤ 18446744073709551615) (s0 : 0 ≤ sel) (s1 : sel ≤ 255) :
    Calls Yba.prog 3 #[.int .u8 sel, .int .u64 mod, .bool neg, .slice a len cap, .int .u64 n] w fun e w' => e = .returned (.bool true) ∧ Below w.heap.size w w' := by
  have h8 : sel % 8 = 0 ∨ sel % 8 = 1 ∨ sel % 8 = 2 ∨ sel % 8 = 3 ∨ sel % 8 = 4 ∨ sel % 8 = 5 ∨ sel % 8 = 6 ∨ sel % 8 = 7 := by omega
  rcases h8 with e | e | e | e | e | e | e | e
  · exact law_0 sel mod n neg a len cap R w h hl n0 n1 m0 m1 s0 s1 e
  · exact law_1 sel mod n neg a len cap R w h hl n0 n1 m0 m1 s0 s1 e
  · exact law_2 sel mod n neg a len cap R w h hl n0 n1 m0 m1 s0 s1 e
  · exact law_3 sel mod n neg a len cap R w h hl n0 n1 m0 m1 s0 s1 e
  · exact law_4 sel mod n neg a len cap R w h hl n0 n1 m0 m1 s0 s1 e
  · exact law_5 sel mod n neg a len cap R w h hl n0 n1 m0 m1 s0 s1 e
  · exact law_6 sel mod n neg a len cap R w h hl n0 n1 m0 m1 s0 s1 e
  · exact law_7 sel mod n neg a len cap R w h hl n0 n1 m0 m1 s0 s1 e

theorem trod_array2 {H : Type} {enc : TypeId × Value → H} {P : Program} {w : World} {base : Nat} {spare : Nat → Bool} {held : Bool} {t e : TypeId} {fuel : Nat} {c0 c1 : Value} {x : DataW H × List MemPlace} (ht : P.underlying t = some (.array 2 e)) (hce : P.cellsOf e = 1)
    (h : DataW.trod enc P w base spare held fuel t [c0, c1] = some x) :
    ∃ y0 y1 n, DataW.trod enc P w base spare held n e [c0] = some y0 ∧ DataW.trod enc P w base spare held n e [c1] = some y1 := by
  obtain ⟨xs, m, rfl, hx, hl, hn, hi⟩ := DataW.trod_array ht h
  have h0 := hi 0 (by omega)
  have h1 := hi 1 (by omega)
  rw [hce] at h0 h1
  match xs, hn with
  | [y0, y1], _ => exact ⟨y0, y1, m, by simpa using h0, by simpa using h1⟩

theorem open_rng {H : Type} {enc : TypeId × Value → H} {W : World} {a : Option Addr} {n cap : Nat} {d : DataW H} {ps : List MemPlace} (h : DataW.Trod enc Yba.prog W 0 (fun _ => true) true 23 (.slice a n cap) d ps) :
    ∃ R, Rng W a n R := by
  obtain ⟨fuel, hf⟩ := h
  rcases Deep.open_slice Yba.underlying23 hf with ⟨hcs, _⟩ | ⟨x, l, c, m, k, D, Pl, hcs, _, hlc, hm, hmm, hy, hel⟩
  · simp [Value.cells] at hcs
    obtain ⟨rfl, rfl, rfl⟩ := hcs
    exact ⟨fun _ => (0, 0), ⟨fun j hj => absurd hj (Nat.not_lt_zero _)⟩⟩
  · simp [Value.cells] at hcs
    obtain ⟨rfl, rfl, rfl⟩ := hcs
    simp only [if_true] at hmm
    subst hmm
    have one : ∀ j, j < n → ∃ r : Int × Int, ∃ b off, some x = some (⟨b, off, none⟩ : Addr) ∧ W.cell? ⟨b, off + j * 2, none⟩ = some (.int .u64 r.1) ∧ W.cell? ⟨b, off + j * 2 + 1, none⟩ = some (.int .u64 r.2) := fun j hj => by
      obtain ⟨cs', hc', ht'⟩ := hel j (by omega)
      rw [cells29] at hc'
      obtain ⟨b, off, spot⟩ := x
      obtain ⟨_, hl2, hcj⟩ := World.cells?_some hc'
      match cs', hl2 with
      | [c0, c1], _ =>
        have g0 := hcj 0 (by omega)
        have g1 := hcj 1 (by omega)
        have hsp : spot = none := by
          obtain ⟨ce, hce, _⟩ := hel 0 (by omega)
          rw [cells29] at hce
          obtain ⟨_, hl4, hc0⟩ := World.cells?_some hce
          have h0 := hc0 0 (by omega)
          match ce, hl4 with
          | [d0, d1], _ => simpa [Addr.add] using World.cell?_spot (show W.cell? _ = some d0 from h0)
        subst hsp
        rw [add_plain, add_plain] at g0 g1
        obtain ⟨y0, y1, nn, f0, f1⟩ := trod_array2 Yba.underlying29 cells22 ht'
        obtain ⟨x0, e0, rfl, _⟩ := DataW.trod_int Yba.underlying22 f0
        obtain ⟨x1, e1, rfl, _⟩ := DataW.trod_int Yba.underlying22 f1
        simp at e0 e1
        subst e0 e1
        exact ⟨(x0, x1), b, off, rfl, g0, g1⟩
    obtain ⟨R, hR⟩ := @Deep.choose_lt (Int × Int) ⟨(0, 0)⟩ n _ one
    exact ⟨R, ⟨hR⟩⟩

set_option maxRecDepth 100000 in
theorem lifted (os : Os) (started : os.Started) (H : Type) (enc : TypeId × Value → H) :
    ReturnsInHanded {} Yba.checked os 3 .any (Rows.lawS2787AModelSpec.pre6 enc Yba.prog Yba.f3 Rows.lawS2787AModelRow.domain false) (Rows.lawS2787AModelSpec.post enc Yba.prog Yba.f3 false true false false) := by
  refine returnsInHanded_of_change (C := Yba.checked) own started (by kernel_rfl) Yba.func3
    (ChangeSpec.witness6 (enc := enc) (C := Yba.checked) false ⟨#[], #[.int .u8 0, .int .u64 0, .bool false, .slice none 0 0, .int .u64 0], []⟩ 8 (by kernel_rfl) (by kernel_rfl) (by kernel_rfl) (by kernel_rfl)) ?_
  intro W base args ds gs before hval0 hW hcnd _
  have hval : ∀ (j : Nat) t v, Yba.f3.params[j]? = some t → args[j]? = some v → Value.okWide Yba.prog W .any base t v := hval0
  have hW' := hW
  obtain ⟨p, q, hA0, hV, rfl, hfz, hnd⟩ := hW
  have hA : DataW.TrodAll enc Yba.prog W 0 (fun _ => true) true Yba.f3.params.toList args.toList ds p := hA0
  rw [Yba.params3] at hA hval
  obtain ⟨v0, vs0, d0, ds0, p0, q0, hargs, rfl, rfl, h0, r0⟩ := trodAll_cons hA
  obtain ⟨v1, vs1, d1, ds1, p1, q1, rfl, rfl, rfl, h1, r1⟩ := trodAll_cons r0
  obtain ⟨v2, vs2, d2, ds2, p2, q2, rfl, rfl, rfl, h2, r2⟩ := trodAll_cons r1
  obtain ⟨v3, vs3, d3, ds3, p3, q3, rfl, rfl, rfl, h3, r3⟩ := trodAll_cons r2
  obtain ⟨v4, vs4, d4, ds4, p4, q4, rfl, rfl, rfl, h4, r4⟩ := trodAll_cons r3
  obtain ⟨rfl, rfl, rfl⟩ := trodAll_nil r4
  obtain rfl : args = #[v0, v1, v2, v3, v4] := by cases args; simp_all
  obtain ⟨rfl, rfl⟩ := trodVars_none hV
  obtain ⟨sel, rfl, rfl, rfl, ws⟩ := open_int Yba.underlying5 (hval 0 5 v0 rfl rfl) h0
  obtain ⟨mod, rfl, rfl, rfl, wm⟩ := open_int Yba.underlying22 (hval 1 22 v1 rfl rfl) h1
  obtain ⟨neg, rfl, rfl, rfl⟩ := open_bool Yba.underlying4 (hval 2 4 v2 rfl rfl) h2
  obtain ⟨a3, l3, c3, rfl⟩ := okWide_slice Yba.underlying23 (hval 3 23 v3 rfl rfl)
  obtain ⟨n, rfl, rfl, rfl, wn⟩ := open_int Yba.underlying22 (hval 4 22 v4 rfl rfl) h4
  have lt3 : ∀ x ∈ p3, x.block < W.heap.size := by obtain ⟨m, hm⟩ := h3; exact DataW.trod_lt m _ _ _ hm
  obtain ⟨R, hR⟩ := open_rng h3
  obtain ⟨s0, s1⟩ := bounds_u8 ws
  obtain ⟨m0, m1⟩ := bounds_u64 wm
  obtain ⟨n0, n1⟩ := bounds_u64 wn
  clear hA0 hval0
  have hwalk : Calls Yba.prog 3 #[.int .u8 sel, .int .u64 mod, .bool neg, .slice a3 l3 c3, .int .u64 n] W fun e w' => e = .returned (.bool true) ∧ Below W.heap.size W w' := by
    by_cases hn : l3 ≤ 1024
    · exact law_some sel mod n neg a3 l3 c3 R W hR hn n0 n1 m0 m1 s0 s1
    · exact law_wide sel mod n neg a3 l3 c3 W (by omega)
  refine hwalk.mono fun e W' ⟨he, bel⟩ => ?_
  subst he
  exact ⟨_, rfl, _, _, _, [], _, [], hW', trodAll_mk1 (shut_bool Yba.underlying4 _),
    (trodAll_cons_mk (shut_int Yba.underlying5 ws) (trodAll_cons_mk (shut_int Yba.underlying22 wm) (trodAll_cons_mk (shut_bool Yba.underlying4 neg)
      (trodAll_cons_mk (Below.trod laidOut (by kernel_rfl) (of_decide_eq_true (by kernel_rfl)) h3 bel lt3) (trodAll_cons_mk (shut_int Yba.underlying22 wn) trodAll_mk0))))), rfl, bel.frame _, fun h => by cases h⟩

theorem model_said : Rows.LawS2787AModelSaid :=
  OpenClaim.holds_of_wide 3 Yba.f3 rfl rfl rfl rfl rfl rfl rfl ⟨rfl, rfl, rfl, rfl, rfl⟩ rfl rfl rfl rfl rfl (by kernel_rfl) Yba.func3 (by kernel_rfl)
    (of_decide_eq_true (by kernel_rfl)) (by unfold Func.isWrapper; first | (rw [if_pos (by decide +kernel)]; kernel_rfl) | (rw [if_neg (by decide +kernel)]; exact ⟨rfl, rfl⟩))
    (fun os started H enc _ => lifted os started H enc)
#print axioms model_said

end Go.Proofs.Ybulkbers
