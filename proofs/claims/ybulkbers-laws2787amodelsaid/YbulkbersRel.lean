/-
  (relation).holds and zzs2787amodel BY THEIR CONTRACTS; LawS2787AModel, WALKED.
-/
import Derived.Test.YbulkbersChecked
import Derived.WalkKit
import Derived.WalkSpells
import Derived.Below
import Derived.Deep.CutRange
import Derived.Deep.Cut
import Derived.Deep.DeepCutAuto
import Derived.Deep.QuietTactic
import Derived.BigQuiet
namespace Go.Proofs.Ybulkbers
open Go.RowKit
set_option linter.unusedVariables false

def hitB (x lo hi : Int) : Bool := decide (lo ≤ x) && decide (x ≤ hi)
def anyB (x : Int) (R : Nat → Int × Int) (k : Nat) : Bool := (List.range k).any fun j => hitB x (R j).1 (R j).2
theorem anyB_succ (x : Int) (R : Nat → Int × Int) (k : Nat) : anyB x R (k + 1) = (anyB x R k || hitB x (R k).1 (R k).2) := by simp [anyB, List.range_succ]
theorem anyB_hit {x : Int} {R : Nat → Int × Int} {k n : Nat} (hk : k < n) (h : hitB x (R k).1 (R k).2 = true) : anyB x R n = true := by
  unfold anyB
  rw [List.any_eq_true]
  exact ⟨k, List.mem_range.2 hk, h⟩

/-- The ranges of a slice. -/
structure Rng (w : World) (a : Option Addr) (n : Nat) (R : Nat → Int × Int) : Prop where
  elem : ∀ j, j < n → ∃ b off, a = some ⟨b, off, none⟩ ∧ w.cell? ⟨b, off + j * 2, none⟩ = some (.int .u64 (R j).1) ∧ w.cell? ⟨b, off + j * 2 + 1, none⟩ = some (.int .u64 (R j).2)

theorem Rng.below {w w' : World} {a : Option Addr} {n : Nat} {R : Nat → Int × Int} (h : Rng w a n R) (hb : Below w.heap.size w w') : Rng w' a n R := by
  refine ⟨fun j hj => ?_⟩
  obtain ⟨b, off, e, h0, h1⟩ := h.elem j hj
  have hl : b < w.heap.size := World.block_lt_of_cell? _ _ h0
  exact ⟨b, off, e, (hb.cell hl).trans h0, (hb.cell hl).trans h1⟩

set_option maxHeartbeats 800000 in
theorem closure8 (lo hi x : Int) (xb : Nat) (w : World) (hx : w.cell? ⟨xb, 0, none⟩ = some (.int .u64 x)) :
    Calls Yba.prog 8 #[.agg #[.int .u64 lo, .int .u64 hi], .pointer (some ⟨xb, 0, none⟩)] w fun e w' => e = .returned (.bool (hitB x lo hi)) ∧ w' = w.alloc (.cells #[.int .u64 lo, .int .u64 hi] 29) := by
  have hb : xb < w.heap.size := World.block_lt_of_cell? _ _ hx
  unfold hitB
  by_cases h1 : lo ≤ x
  · have e1 : decide (lo ≤ x) = true := decide_eq_true h1
    rw [e1, Bool.true_and]
    go_enter Yba.func8, Yba.ntmps8
    go_wp2
    go_ret
    exact ⟨rfl, rfl⟩
  · have e1 : decide (lo ≤ x) = false := decide_eq_false h1
    rw [e1, Bool.false_and]
    go_enter Yba.func8, Yba.ntmps8
    go_wp2
    go_ret
    exact ⟨rfl, rfl⟩

set_option maxHeartbeats 800000 in
theorem indexFunc (a : Option Addr) (n cap : Nat) (R : Nat → Int × Int) (x : Int) (xb : Nat) (w : World) (h : Rng w a n R) (hn : n ≤ 1024) (hx : w.cell? ⟨xb, 0, none⟩ = some (.int .u64 x)) :
    Calls Yba.prog 9 #[.slice a n cap, .func (.func 8) #[] #[.pointer (some ⟨xb, 0, none⟩)]] w fun e w' => (∃ r : Int, e = .returned (.int .i64 r) ∧ (0 ≤ r ↔ anyB x R n = true)) ∧ Below w.heap.size w w' := by
  have hb : xb < w.heap.size := World.block_lt_of_cell? _ _ hx
  go_enter Yba.func9, Yba.ntmps9
  go_wp2_with fail
  go_loopw [8] (fun i wr => ∃ k : Nat, k ≤ n ∧ i = .int .i64 k ∧ anyB x R k = false ∧ Below w.heap.size w wr) (fun i _ => n - (intOf i).toNat)
  case atStart => exact ⟨0, Nat.zero_le _, rfl, rfl, Below.refl _ _⟩
  case round =>
    obtain ⟨k, hk, rfl, hany, hbw⟩ := hrel
    have HA : Hid (anyB x R k = false) := hany
    clear hany
    by_cases hlt : k < n
    · obtain ⟨b, off, rfl, g0, g1⟩ := (h.below hbw).elem k hlt
      have hxr : wr.cell? ⟨xb, 0, none⟩ = some (.int .u64 x) := (hbw.cell hb).trans hx
      have hki : (k : Int) < (n : Int) := by omega
      generalize hlo : (R k).1 = lo at *
      generalize hhi : (R k).2 = hi at *
      have HR : Hid ((R k).1 = lo ∧ (R k).2 = hi) := ⟨hlo, hhi⟩
      clear hlo hhi
      go_wp2_with fail
      refine (closure8 lo hi x xb wr hxr).mono ?_
      rintro e wA ⟨rfl, rfl⟩
      have hbA : Below w.heap.size w (wr.alloc (.cells #[.int .u64 lo, .int .u64 hi] 29)) := hbw.alloc hbw.size _
      clear hxr g0 g1
      cases hh : hitB x lo hi
      · have HH : Hid (hitB x (R k).1 (R k).2 = false) := by show hitB x (R k).1 (R k).2 = false; rw [HR.out.1, HR.out.2]; exact hh
        clear hh
        go_wp2_with fail
        go_roundw
        case rel => exact ⟨k + 1, by omega, by go_num, by rw [anyB_succ, HA.out, HH.out]; rfl, hbA⟩
        case measure => simp [intOf]; omega
      · have HH : Hid (hitB x (R k).1 (R k).2 = true) := by show hitB x (R k).1 (R k).2 = true; rw [HR.out.1, HR.out.2]; exact hh
        clear hh
        go_wp2_with fail
        go_ret
        exact ⟨⟨_, rfl, iff_of_true (by omega) (anyB_hit hlt HH.out)⟩, hbA⟩
    · go_wp2_with fail
      go_ret
      obtain rfl : k = n := by omega
      exact ⟨⟨_, rfl, iff_of_false (by omega) (by rw [HA.out]; simp)⟩, hbw⟩

theorem containsFunc (a : Option Addr) (n cap : Nat) (R : Nat → Int × Int) (x : Int) (xb : Nat) (w : World) (h : Rng w a n R) (hn : n ≤ 1024) (hx : w.cell? ⟨xb, 0, none⟩ = some (.int .u64 x)) :
    Calls Yba.prog 7 #[.slice a n cap, .func (.func 8) #[] #[.pointer (some ⟨xb, 0, none⟩)]] w fun e w' => e = .returned (.bool (anyB x R n)) ∧ Below w.heap.size w w' := by
  go_enter Yba.func7, Yba.ntmps7
  go_wp2_with fail
  refine (indexFunc a n cap R x xb w h hn hx).mono ?_
  rintro e w1 ⟨⟨r, rfl, hr⟩, hb⟩
  have HR : Hid (0 ≤ r ↔ anyB x R n = true) := hr
  clear hr
  go_wp2_with fail
  go_ret
  refine ⟨congrArg (fun b => Ending.returned (Value.bool b)) ?_, hb⟩
  have := HR.out
  cases ha : anyB x R n
  · exact decide_eq_false (fun h => by rw [this.1 h] at ha; cases ha)
  · exact decide_eq_true (this.2 ha)

/-- What both sides look for. -/
def opHit (op : Int) : Bool := (op == 110) || (op == 105)
def xOf (op mod n : Int) : Int := if mod = 0 then (if opHit op then n else 0) else (if opHit op then n else 0) % mod

set_option maxHeartbeats 1600000 in
theorem holdsA0 (op mod n : Int) (neg : Bool) (a : Option Addr) (len cap : Nat) (R : Nat → Int × Int) (w : World) (h : Rng w a len R) (hl : len ≤ 1024) (n0 : 0 ≤ n) (n1 : n ≤ 18446744073709551615) (m0 : 0 ≤ mod) (m1 : mod ≤ 18446744073709551615) (e1 : (op == 110) = true) (e3 : (mod != 0) = false) :
    Calls Yba.prog 5 #[.agg #[.int .u8 op, .int .u64 mod, .bool neg, .slice a len cap], .int .u64 n] w fun e w' => e = .returned (.bool (anyB (xOf op mod n) R len != neg)) ∧ Below w.heap.size w w' := by
  have hmf : ∀ (fn : Fn) (first cap : Array Value) (w : World), (Instr.makeFunc fn first cap).run Yba.prog w = .ok (.func fn first cap) w := fun _ _ _ _ => rfl
  have hop : opHit op = true := by simp [opHit, e1]
  have hxo : xOf op mod n = n := by unfold xOf; rw [if_pos (by simpa using e3), hop]; rfl
  rw [hxo]
  clear hop hxo
  go_enter Yba.func5, Yba.ntmps5
  go_wp2_with fail
  refine (containsFunc a len cap R n (w.heap.size + 1) ((w.alloc (.cells #[.int .u8 op, .int .u64 mod, .bool neg, .slice a len cap] 25)).alloc (.cells #[.int .u64 n] 22)) (h.below (((Below.refl _ _).alloc (Nat.le_refl _) _).alloc (by simp) _)) hl (by go_simp)).mono ?_
  rintro e w1 ⟨rfl, hb⟩
  have hc : w1.cell? ⟨w.heap.size, 2, none⟩ = some (.bool neg) := (hb.cell (by simp; omega)).trans (by go_simp)
  have hbe : Below w.heap.size w w1 := (((Below.refl _ _).alloc (Nat.le_refl _) _).alloc (by simp) _).trans (hb.mono (by simp; omega))
  clear hb
  go_wp2_with fail
  go_ret
  refine ⟨?_, hbe⟩
  cases anyB n R len <;> cases neg <;> rfl

set_option maxHeartbeats 1600000 in
theorem holdsA1 (op mod n : Int) (neg : Bool) (a : Option Addr) (len cap : Nat) (R : Nat → Int × Int) (w : World) (h : Rng w a len R) (hl : len ≤ 1024) (n0 : 0 ≤ n) (n1 : n ≤ 18446744073709551615) (m0 : 0 ≤ mod) (m1 : mod ≤ 18446744073709551615) (e1 : (op == 110) = true) (e3 : (mod != 0) = true) :
    Calls Yba.prog 5 #[.agg #[.int .u8 op, .int .u64 mod, .bool neg, .slice a len cap], .int .u64 n] w fun e w' => e = .returned (.bool (anyB (xOf op mod n) R len != neg)) ∧ Below w.heap.size w w' := by
  have hmf : ∀ (fn : Fn) (first cap : Array Value) (w : World), (Instr.makeFunc fn first cap).run Yba.prog w = .ok (.func fn first cap) w := fun _ _ _ _ => rfl
  have hop : opHit op = true := by simp [opHit, e1]
  have hxo : xOf op mod n = (n % mod) := by unfold xOf; rw [if_neg (by simpa using e3), hop]; rfl
  rw [hxo]
  clear hop hxo
  have hmz : mod ≠ 0 := by simpa using e3
  have hmp : 0 < mod := by omega
  clear hmz
  go_enter Yba.func5, Yba.ntmps5
  go_wp2_with fail
  refine (containsFunc a len cap R (n % mod) (w.heap.size + 1) ((w.alloc (.cells #[.int .u8 op, .int .u64 mod, .bool neg, .slice a len cap] 25)).alloc (.cells #[.int .u64 (n % mod)] 22)) (h.below (((Below.refl _ _).alloc (Nat.le_refl _) _).alloc (by simp) _)) hl (by go_simp)).mono ?_
  rintro e w1 ⟨rfl, hb⟩
  have hc : w1.cell? ⟨w.heap.size, 2, none⟩ = some (.bool neg) := (hb.cell (by simp; omega)).trans (by go_simp)
  have hbe : Below w.heap.size w w1 := (((Below.refl _ _).alloc (Nat.le_refl _) _).alloc (by simp) _).trans (hb.mono (by simp; omega))
  clear hb
  go_wp2_with fail
  go_ret
  refine ⟨?_, hbe⟩
  cases anyB (n % mod) R len <;> cases neg <;> rfl

set_option maxHeartbeats 1600000 in
theorem holdsB0 (op mod n : Int) (neg : Bool) (a : Option Addr) (len cap : Nat) (R : Nat → Int × Int) (w : World) (h : Rng w a len R) (hl : len ≤ 1024) (n0 : 0 ≤ n) (n1 : n ≤ 18446744073709551615) (m0 : 0 ≤ mod) (m1 : mod ≤ 18446744073709551615) (e1 : (op == 110) = false) (e2 : (op == 105) = true) (e3 : (mod != 0) = false) :
    Calls Yba.prog 5 #[.agg #[.int .u8 op, .int .u64 mod, .bool neg, .slice a len cap], .int .u64 n] w fun e w' => e = .returned (.bool (anyB (xOf op mod n) R len != neg)) ∧ Below w.heap.size w w' := by
  have hmf : ∀ (fn : Fn) (first cap : Array Value) (w : World), (Instr.makeFunc fn first cap).run Yba.prog w = .ok (.func fn first cap) w := fun _ _ _ _ => rfl
  have hop : opHit op = true := by simp [opHit, e1, e2]
  have hxo : xOf op mod n = n := by unfold xOf; rw [if_pos (by simpa using e3), hop]; rfl
  rw [hxo]
  clear hop hxo
  go_enter Yba.func5, Yba.ntmps5
  go_wp2_with fail
  refine (containsFunc a len cap R n (w.heap.size + 1) ((w.alloc (.cells #[.int .u8 op, .int .u64 mod, .bool neg, .slice a len cap] 25)).alloc (.cells #[.int .u64 n] 22)) (h.below (((Below.refl _ _).alloc (Nat.le_refl _) _).alloc (by simp) _)) hl (by go_simp)).mono ?_
  rintro e w1 ⟨rfl, hb⟩
  have hc : w1.cell? ⟨w.heap.size, 2, none⟩ = some (.bool neg) := (hb.cell (by simp; omega)).trans (by go_simp)
  have hbe : Below w.heap.size w w1 := (((Below.refl _ _).alloc (Nat.le_refl _) _).alloc (by simp) _).trans (hb.mono (by simp; omega))
  clear hb
  go_wp2_with fail
  go_ret
  refine ⟨?_, hbe⟩
  cases anyB n R len <;> cases neg <;> rfl

set_option maxHeartbeats 1600000 in
theorem holdsB1 (op mod n : Int) (neg : Bool) (a : Option Addr) (len cap : Nat) (R : Nat → Int × Int) (w : World) (h : Rng w a len R) (hl : len ≤ 1024) (n0 : 0 ≤ n) (n1 : n ≤ 18446744073709551615) (m0 : 0 ≤ mod) (m1 : mod ≤ 18446744073709551615) (e1 : (op == 110) = false) (e2 : (op == 105) = true) (e3 : (mod != 0) = true) :
    Calls Yba.prog 5 #[.agg #[.int .u8 op, .int .u64 mod, .bool neg, .slice a len cap], .int .u64 n] w fun e w' => e = .returned (.bool (anyB (xOf op mod n) R len != neg)) ∧ Below w.heap.size w w' := by
  have hmf : ∀ (fn : Fn) (first cap : Array Value) (w : World), (Instr.makeFunc fn first cap).run Yba.prog w = .ok (.func fn first cap) w := fun _ _ _ _ => rfl
  have hop : opHit op = true := by simp [opHit, e1, e2]
  have hxo : xOf op mod n = (n % mod) := by unfold xOf; rw [if_neg (by simpa using e3), hop]; rfl
  rw [hxo]
  clear hop hxo
  have hmz : mod ≠ 0 := by simpa using e3
  have hmp : 0 < mod := by omega
  clear hmz
  go_enter Yba.func5, Yba.ntmps5
  go_wp2_with fail
  refine (containsFunc a len cap R (n % mod) (w.heap.size + 1) ((w.alloc (.cells #[.int .u8 op, .int .u64 mod, .bool neg, .slice a len cap] 25)).alloc (.cells #[.int .u64 (n % mod)] 22)) (h.below (((Below.refl _ _).alloc (Nat.le_refl _) _).alloc (by simp) _)) hl (by go_simp)).mono ?_
  rintro e w1 ⟨rfl, hb⟩
  have hc : w1.cell? ⟨w.heap.size, 2, none⟩ = some (.bool neg) := (hb.cell (by simp; omega)).trans (by go_simp)
  have hbe : Below w.heap.size w w1 := (((Below.refl _ _).alloc (Nat.le_refl _) _).alloc (by simp) _).trans (hb.mono (by simp; omega))
  clear hb
  go_wp2_with fail
  go_ret
  refine ⟨?_, hbe⟩
  cases anyB (n % mod) R len <;> cases neg <;> rfl

set_option maxHeartbeats 1600000 in
theorem holdsC0 (op mod n : Int) (neg : Bool) (a : Option Addr) (len cap : Nat) (R : Nat → Int × Int) (w : World) (h : Rng w a len R) (hl : len ≤ 1024) (n0 : 0 ≤ n) (n1 : n ≤ 18446744073709551615) (m0 : 0 ≤ mod) (m1 : mod ≤ 18446744073709551615) (e1 : (op == 110) = false) (e2 : (op == 105) = false) (e3 : (mod != 0) = false) :
    Calls Yba.prog 5 #[.agg #[.int .u8 op, .int .u64 mod, .bool neg, .slice a len cap], .int .u64 n] w fun e w' => e = .returned (.bool (anyB (xOf op mod n) R len != neg)) ∧ Below w.heap.size w w' := by
  have hmf : ∀ (fn : Fn) (first cap : Array Value) (w : World), (Instr.makeFunc fn first cap).run Yba.prog w = .ok (.func fn first cap) w := fun _ _ _ _ => rfl
  have hop : opHit op = false := by simp [opHit, e1, e2]
  have hxo : xOf op mod n = 0 := by unfold xOf; rw [if_pos (by simpa using e3), hop]; rfl
  rw [hxo]
  clear hop hxo
  go_enter Yba.func5, Yba.ntmps5
  go_wp2_with fail
  refine (containsFunc a len cap R 0 (w.heap.size + 1) ((w.alloc (.cells #[.int .u8 op, .int .u64 mod, .bool neg, .slice a len cap] 25)).alloc (.cells #[.int .u64 0] 22)) (h.below (((Below.refl _ _).alloc (Nat.le_refl _) _).alloc (by simp) _)) hl (by go_simp)).mono ?_
  rintro e w1 ⟨rfl, hb⟩
  have hc : w1.cell? ⟨w.heap.size, 2, none⟩ = some (.bool neg) := (hb.cell (by simp; omega)).trans (by go_simp)
  have hbe : Below w.heap.size w w1 := (((Below.refl _ _).alloc (Nat.le_refl _) _).alloc (by simp) _).trans (hb.mono (by simp; omega))
  clear hb
  go_wp2_with fail
  go_ret
  refine ⟨?_, hbe⟩
  cases anyB 0 R len <;> cases neg <;> rfl

set_option maxHeartbeats 1600000 in
theorem holdsC1 (op mod n : Int) (neg : Bool) (a : Option Addr) (len cap : Nat) (R : Nat → Int × Int) (w : World) (h : Rng w a len R) (hl : len ≤ 1024) (n0 : 0 ≤ n) (n1 : n ≤ 18446744073709551615) (m0 : 0 ≤ mod) (m1 : mod ≤ 18446744073709551615) (e1 : (op == 110) = false) (e2 : (op == 105) = false) (e3 : (mod != 0) = true) :
    Calls Yba.prog 5 #[.agg #[.int .u8 op, .int .u64 mod, .bool neg, .slice a len cap], .int .u64 n] w fun e w' => e = .returned (.bool (anyB (xOf op mod n) R len != neg)) ∧ Below w.heap.size w w' := by
  have hmf : ∀ (fn : Fn) (first cap : Array Value) (w : World), (Instr.makeFunc fn first cap).run Yba.prog w = .ok (.func fn first cap) w := fun _ _ _ _ => rfl
  have hop : opHit op = false := by simp [opHit, e1, e2]
  have hxo : xOf op mod n = 0 := by unfold xOf; rw [if_neg (by simpa using e3), hop]; simp
  rw [hxo]
  clear hop hxo
  have hmz : mod ≠ 0 := by simpa using e3
  have hmp : 0 < mod := by omega
  clear hmz
  go_enter Yba.func5, Yba.ntmps5
  go_wp2_with fail
  refine (containsFunc a len cap R 0 (w.heap.size + 1) ((w.alloc (.cells #[.int .u8 op, .int .u64 mod, .bool neg, .slice a len cap] 25)).alloc (.cells #[.int .u64 0] 22)) (h.below (((Below.refl _ _).alloc (Nat.le_refl _) _).alloc (by simp) _)) hl (by go_simp)).mono ?_
  rintro e w1 ⟨rfl, hb⟩
  have hc : w1.cell? ⟨w.heap.size, 2, none⟩ = some (.bool neg) := (hb.cell (by simp; omega)).trans (by go_simp)
  have hbe : Below w.heap.size w w1 := (((Below.refl _ _).alloc (Nat.le_refl _) _).alloc (by simp) _).trans (hb.mono (by simp; omega))
  clear hb
  go_wp2_with fail
  go_ret
  refine ⟨?_, hbe⟩
  cases anyB 0 R len <;> cases neg <;> rfl

theorem holds5 (op mod n : Int) (neg : Bool) (a : Option Addr) (len cap : Nat) (R : Nat → Int × Int) (w : World) (h : Rng w a len R) (hl : len ≤ 1024) (n0 : 0 ≤ n) (n1 : n ≤ 18446744073709551615) (m0 : 0 ≤ mod) (m1 : mod ≤ 18446744073709551615) :
    Calls Yba.prog 5 #[.agg #[.int .u8 op, .int .u64 mod, .bool neg, .slice a len cap], .int .u64 n] w fun e w' => e = .returned (.bool (anyB (xOf op mod n) R len != neg)) ∧ Below w.heap.size w w' := by
  cases e1 : (op == 110) <;> cases e3 : (mod != 0)
  · cases e2 : (op == 105)
    · exact holdsC0 op mod n neg a len cap R w h hl n0 n1 m0 m1 e1 e2 e3
    · exact holdsB0 op mod n neg a len cap R w h hl n0 n1 m0 m1 e1 e2 e3
  · cases e2 : (op == 105)
    · exact holdsC1 op mod n neg a len cap R w h hl n0 n1 m0 m1 e1 e2 e3
    · exact holdsB1 op mod n neg a len cap R w h hl n0 n1 m0 m1 e1 e2 e3
  · exact holdsA0 op mod n neg a len cap R w h hl n0 n1 m0 m1 e1 e3
  · exact holdsA1 op mod n neg a len cap R w h hl n0 n1 m0 m1 e1 e3

def x0 (op n : Int) : Int := if opHit op then n else 0
theorem xOf_zero {op mod n : Int} (h : mod = 0) : xOf op mod n = x0 op n := by unfold xOf x0; rw [if_pos h]
theorem xOf_mod {op mod n : Int} (h : mod ≠ 0) : xOf op mod n = x0 op n % mod := by unfold xOf x0; rw [if_neg h]
theorem hit_def (x lo hi : Int) (b c : Bool) (h1 : decide (lo ≤ x) = b) (h2 : decide (x ≤ hi) = c) : hitB x lo hi = (b && c) := by unfold hitB; rw [h1, h2]

end Go.Proofs.Ybulkbers
