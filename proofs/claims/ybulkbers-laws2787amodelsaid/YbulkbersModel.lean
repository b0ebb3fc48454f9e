/-
  zzs2787amodel BY ITS CONTRACT.
-/
import Derived.Test.YbulkbersRel
namespace Go.Proofs.Ybulkbers
open Go.RowKit
set_option linter.unusedVariables false

set_option maxHeartbeats 1600000 in
theorem modelA0 (op mod n : Int) (neg : Bool) (a : Option Addr) (len cap : Nat) (R : Nat → Int × Int) (w : World) (h : Rng w a len R) (hl : len ≤ 1024) (n0 : 0 ≤ n) (n1 : n ≤ 18446744073709551615) (m0 : 0 ≤ mod) (m1 : mod ≤ 18446744073709551615) (e1 : (op == 110) = true) (e3 : (mod != 0) = false) :
    Calls Yba.prog 6 #[.int .u8 op, .int .u64 mod, .bool neg, .slice a len cap, .int .u64 n] w fun e w' => e = .returned (.bool (anyB (xOf op mod n) R len != neg)) ∧ w' = w := by
  have hop : opHit op = true := by simp [opHit, e1]
  have hxo : xOf op mod n = n := by unfold xOf; rw [if_pos (by simpa using e3), hop]; rfl
  rw [hxo]
  clear hop hxo
  go_enter Yba.func6, Yba.ntmps6
  go_wp2_with fail
  go_loop [12, 13] (fun t i => ∃ k : Nat, k ≤ len ∧ i = .int .i64 k ∧ t = .bool (anyB n R k)) (fun _ i => len - (intOf i).toNat)
  case atStart => exact ⟨0, Nat.zero_le _, rfl, rfl⟩
  case round =>
    obtain ⟨k, hk, rfl, rfl⟩ := hrel
    by_cases hlt : k < len
    · obtain ⟨b, off, rfl, g0, g1⟩ := h.elem k hlt
      have hki : (k : Int) < (len : Int) := by omega
      have hs := anyB_succ n R k
      generalize (R k).1 = lo at *
      generalize (R k).2 = hi at *
      cases d1 : decide (lo ≤ n)
      · have H : Hid (anyB n R (k + 1) = anyB n R k) := by show _ = _; rw [hs, hit_def n lo hi _ _ d1 rfl, Bool.false_and, Bool.or_false]
        clear hs
        go_wp2_with fail
        go_round
        case rel => exact ⟨k + 1, by omega, by go_num, by rw [H.out]⟩
        case measure => simp [intOf]; omega
      · cases d2 : decide (n ≤ hi)
        · have H : Hid (anyB n R (k + 1) = anyB n R k) := by show _ = _; rw [hs, hit_def n lo hi _ _ d1 d2, Bool.and_false, Bool.or_false]
          clear hs
          go_wp2_with fail
          go_round
          case rel => exact ⟨k + 1, by omega, by go_num, by rw [H.out]⟩
          case measure => simp [intOf]; omega
        · have H : Hid (anyB n R (k + 1) = true) := by show _ = _; rw [hs, hit_def n lo hi _ _ d1 d2, Bool.and_self, Bool.or_true]
          clear hs
          go_wp2_with fail
          go_round
          case rel => exact ⟨k + 1, by omega, by go_num, by rw [H.out]⟩
          case measure => simp [intOf]; omega
    · obtain rfl : k = len := by omega
      cases neg
      · go_wp2_with fail
        go_ret
        exact ⟨rfl, rfl⟩
      · go_wp2_with fail
        go_ret
        exact ⟨rfl, rfl⟩

set_option maxHeartbeats 1600000 in
theorem modelA1 (op mod n : Int) (neg : Bool) (a : Option Addr) (len cap : Nat) (R : Nat → Int × Int) (w : World) (h : Rng w a len R) (hl : len ≤ 1024) (n0 : 0 ≤ n) (n1 : n ≤ 18446744073709551615) (m0 : 0 ≤ mod) (m1 : mod ≤ 18446744073709551615) (e1 : (op == 110) = true) (e3 : (mod != 0) = true) :
    Calls Yba.prog 6 #[.int .u8 op, .int .u64 mod, .bool neg, .slice a len cap, .int .u64 n] w fun e w' => e = .returned (.bool (anyB (xOf op mod n) R len != neg)) ∧ w' = w := by
  have hop : opHit op = true := by simp [opHit, e1]
  have hxo : xOf op mod n = (n % mod) := by unfold xOf; rw [if_neg (by simpa using e3), hop]; rfl
  rw [hxo]
  clear hop hxo
  have hmz : mod ≠ 0 := by simpa using e3
  have hmp : 0 < mod := by omega
  clear hmz
  go_enter Yba.func6, Yba.ntmps6
  go_wp2_with fail
  go_loop [12, 13] (fun t i => ∃ k : Nat, k ≤ len ∧ i = .int .i64 k ∧ t = .bool (anyB (n % mod) R k)) (fun _ i => len - (intOf i).toNat)
  case atStart => exact ⟨0, Nat.zero_le _, rfl, rfl⟩
  case round =>
    obtain ⟨k, hk, rfl, rfl⟩ := hrel
    by_cases hlt : k < len
    · obtain ⟨b, off, rfl, g0, g1⟩ := h.elem k hlt
      have hki : (k : Int) < (len : Int) := by omega
      have hs := anyB_succ (n % mod) R k
      generalize (R k).1 = lo at *
      generalize (R k).2 = hi at *
      cases d1 : decide (lo ≤ (n % mod))
      · have H : Hid (anyB (n % mod) R (k + 1) = anyB (n % mod) R k) := by show _ = _; rw [hs, hit_def (n % mod) lo hi _ _ d1 rfl, Bool.false_and, Bool.or_false]
        clear hs
        go_wp2_with fail
        go_round
        case rel => exact ⟨k + 1, by omega, by go_num, by rw [H.out]⟩
        case measure => simp [intOf]; omega
      · cases d2 : decide ((n % mod) ≤ hi)
        · have H : Hid (anyB (n % mod) R (k + 1) = anyB (n % mod) R k) := by show _ = _; rw [hs, hit_def (n % mod) lo hi _ _ d1 d2, Bool.and_false, Bool.or_false]
          clear hs
          go_wp2_with fail
          go_round
          case rel => exact ⟨k + 1, by omega, by go_num, by rw [H.out]⟩
          case measure => simp [intOf]; omega
        · have H : Hid (anyB (n % mod) R (k + 1) = true) := by show _ = _; rw [hs, hit_def (n % mod) lo hi _ _ d1 d2, Bool.and_self, Bool.or_true]
          clear hs
          go_wp2_with fail
          go_round
          case rel => exact ⟨k + 1, by omega, by go_num, by rw [H.out]⟩
          case measure => simp [intOf]; omega
    · obtain rfl : k = len := by omega
      cases neg
      · go_wp2_with fail
        go_ret
        exact ⟨rfl, rfl⟩
      · go_wp2_with fail
        go_ret
        exact ⟨rfl, rfl⟩

set_option maxHeartbeats 1600000 in
theorem modelB0 (op mod n : Int) (neg : Bool) (a : Option Addr) (len cap : Nat) (R : Nat → Int × Int) (w : World) (h : Rng w a len R) (hl : len ≤ 1024) (n0 : 0 ≤ n) (n1 : n ≤ 18446744073709551615) (m0 : 0 ≤ mod) (m1 : mod ≤ 18446744073709551615) (e1 : (op == 110) = false) (e2 : (op == 105) = true) (e3 : (mod != 0) = false) :
    Calls Yba.prog 6 #[.int .u8 op, .int .u64 mod, .bool neg, .slice a len cap, .int .u64 n] w fun e w' => e = .returned (.bool (anyB (xOf op mod n) R len != neg)) ∧ w' = w := by
  have hop : opHit op = true := by simp [opHit, e1, e2]
  have hxo : xOf op mod n = n := by unfold xOf; rw [if_pos (by simpa using e3), hop]; rfl
  rw [hxo]
  clear hop hxo
  go_enter Yba.func6, Yba.ntmps6
  go_wp2_with fail
  go_loop [12, 13] (fun t i => ∃ k : Nat, k ≤ len ∧ i = .int .i64 k ∧ t = .bool (anyB n R k)) (fun _ i => len - (intOf i).toNat)
  case atStart => exact ⟨0, Nat.zero_le _, rfl, rfl⟩
  case round =>
    obtain ⟨k, hk, rfl, rfl⟩ := hrel
    by_cases hlt : k < len
    · obtain ⟨b, off, rfl, g0, g1⟩ := h.elem k hlt
      have hki : (k : Int) < (len : Int) := by omega
      have hs := anyB_succ n R k
      generalize (R k).1 = lo at *
      generalize (R k).2 = hi at *
      cases d1 : decide (lo ≤ n)
      · have H : Hid (anyB n R (k + 1) = anyB n R k) := by show _ = _; rw [hs, hit_def n lo hi _ _ d1 rfl, Bool.false_and, Bool.or_false]
        clear hs
        go_wp2_with fail
        go_round
        case rel => exact ⟨k + 1, by omega, by go_num, by rw [H.out]⟩
        case measure => simp [intOf]; omega
      · cases d2 : decide (n ≤ hi)
        · have H : Hid (anyB n R (k + 1) = anyB n R k) := by show _ = _; rw [hs, hit_def n lo hi _ _ d1 d2, Bool.and_false, Bool.or_false]
          clear hs
          go_wp2_with fail
          go_round
          case rel => exact ⟨k + 1, by omega, by go_num, by rw [H.out]⟩
          case measure => simp [intOf]; omega
        · have H : Hid (anyB n R (k + 1) = true) := by show _ = _; rw [hs, hit_def n lo hi _ _ d1 d2, Bool.and_self, Bool.or_true]
          clear hs
          go_wp2_with fail
          go_round
          case rel => exact ⟨k + 1, by omega, by go_num, by rw [H.out]⟩
          case measure => simp [intOf]; omega
    · obtain rfl : k = len := by omega
      cases neg
      · go_wp2_with fail
        go_ret
        exact ⟨rfl, rfl⟩
      · go_wp2_with fail
        go_ret
        exact ⟨rfl, rfl⟩

set_option maxHeartbeats 1600000 in
theorem modelB1 (op mod n : Int) (neg : Bool) (a : Option Addr) (len cap : Nat) (R : Nat → Int × Int) (w : World) (h : Rng w a len R) (hl : len ≤ 1024) (n0 : 0 ≤ n) (n1 : n ≤ 18446744073709551615) (m0 : 0 ≤ mod) (m1 : mod ≤ 18446744073709551615) (e1 : (op == 110) = false) (e2 : (op == 105) = true) (e3 : (mod != 0) = true) :
    Calls Yba.prog 6 #[.int .u8 op, .int .u64 mod, .bool neg, .slice a len cap, .int .u64 n] w fun e w' => e = .returned (.bool (anyB (xOf op mod n) R len != neg)) ∧ w' = w := by
  have hop : opHit op = true := by simp [opHit, e1, e2]
  have hxo : xOf op mod n = (n % mod) := by unfold xOf; rw [if_neg (by simpa using e3), hop]; rfl
  rw [hxo]
  clear hop hxo
  have hmz : mod ≠ 0 := by simpa using e3
  have hmp : 0 < mod := by omega
  clear hmz
  go_enter Yba.func6, Yba.ntmps6
  go_wp2_with fail
  go_loop [12, 13] (fun t i => ∃ k : Nat, k ≤ len ∧ i = .int .i64 k ∧ t = .bool (anyB (n % mod) R k)) (fun _ i => len - (intOf i).toNat)
  case atStart => exact ⟨0, Nat.zero_le _, rfl, rfl⟩
  case round =>
    obtain ⟨k, hk, rfl, rfl⟩ := hrel
    by_cases hlt : k < len
    · obtain ⟨b, off, rfl, g0, g1⟩ := h.elem k hlt
      have hki : (k : Int) < (len : Int) := by omega
      have hs := anyB_succ (n % mod) R k
      generalize (R k).1 = lo at *
      generalize (R k).2 = hi at *
      cases d1 : decide (lo ≤ (n % mod))
      · have H : Hid (anyB (n % mod) R (k + 1) = anyB (n % mod) R k) := by show _ = _; rw [hs, hit_def (n % mod) lo hi _ _ d1 rfl, Bool.false_and, Bool.or_false]
        clear hs
        go_wp2_with fail
        go_round
        case rel => exact ⟨k + 1, by omega, by go_num, by rw [H.out]⟩
        case measure => simp [intOf]; omega
      · cases d2 : decide ((n % mod) ≤ hi)
        · have H : Hid (anyB (n % mod) R (k + 1) = anyB (n % mod) R k) := by show _ = _; rw [hs, hit_def (n % mod) lo hi _ _ d1 d2, Bool.and_false, Bool.or_false]
          clear hs
          go_wp2_with fail
          go_round
          case rel => exact ⟨k + 1, by omega, by go_num, by rw [H.out]⟩
          case measure => simp [intOf]; omega
        · have H : Hid (anyB (n % mod) R (k + 1) = true) := by show _ = _; rw [hs, hit_def (n % mod) lo hi _ _ d1 d2, Bool.and_self, Bool.or_true]
          clear hs
          go_wp2_with fail
          go_round
          case rel => exact ⟨k + 1, by omega, by go_num, by rw [H.out]⟩
          case measure => simp [intOf]; omega
    · obtain rfl : k = len := by omega
      cases neg
      · go_wp2_with fail
        go_ret
        exact ⟨rfl, rfl⟩
      · go_wp2_with fail
        go_ret
        exact ⟨rfl, rfl⟩

set_option maxHeartbeats 1600000 in
theorem modelC0 (op mod n : Int) (neg : Bool) (a : Option Addr) (len cap : Nat) (R : Nat → Int × Int) (w : World) (h : Rng w a len R) (hl : len ≤ 1024) (n0 : 0 ≤ n) (n1 : n ≤ 18446744073709551615) (m0 : 0 ≤ mod) (m1 : mod ≤ 18446744073709551615) (e1 : (op == 110) = false) (e2 : (op == 105) = false) (e3 : (mod != 0) = false) :
    Calls Yba.prog 6 #[.int .u8 op, .int .u64 mod, .bool neg, .slice a len cap, .int .u64 n] w fun e w' => e = .returned (.bool (anyB (xOf op mod n) R len != neg)) ∧ w' = w := by
  have hop : opHit op = false := by simp [opHit, e1, e2]
  have hxo : xOf op mod n = 0 := by unfold xOf; rw [if_pos (by simpa using e3), hop]; rfl
  rw [hxo]
  clear hop hxo
  go_enter Yba.func6, Yba.ntmps6
  go_wp2_with fail
  go_loop [12, 13] (fun t i => ∃ k : Nat, k ≤ len ∧ i = .int .i64 k ∧ t = .bool (anyB 0 R k)) (fun _ i => len - (intOf i).toNat)
  case atStart => exact ⟨0, Nat.zero_le _, rfl, rfl⟩
  case round =>
    obtain ⟨k, hk, rfl, rfl⟩ := hrel
    by_cases hlt : k < len
    · obtain ⟨b, off, rfl, g0, g1⟩ := h.elem k hlt
      have hki : (k : Int) < (len : Int) := by omega
      have hs := anyB_succ 0 R k
      generalize (R k).1 = lo at *
      generalize (R k).2 = hi at *
      cases d1 : decide (lo ≤ 0)
      · have H : Hid (anyB 0 R (k + 1) = anyB 0 R k) := by show _ = _; rw [hs, hit_def 0 lo hi _ _ d1 rfl, Bool.false_and, Bool.or_false]
        clear hs
        go_wp2_with fail
        go_round
        case rel => exact ⟨k + 1, by omega, by go_num, by rw [H.out]⟩
        case measure => simp [intOf]; omega
      · cases d2 : decide (0 ≤ hi)
        · have H : Hid (anyB 0 R (k + 1) = anyB 0 R k) := by show _ = _; rw [hs, hit_def 0 lo hi _ _ d1 d2, Bool.and_false, Bool.or_false]
          clear hs
          go_wp2_with fail
          go_round
          case rel => exact ⟨k + 1, by omega, by go_num, by rw [H.out]⟩
          case measure => simp [intOf]; omega
        · have H : Hid (anyB 0 R (k + 1) = true) := by show _ = _; rw [hs, hit_def 0 lo hi _ _ d1 d2, Bool.and_self, Bool.or_true]
          clear hs
          go_wp2_with fail
          go_round
          case rel => exact ⟨k + 1, by omega, by go_num, by rw [H.out]⟩
          case measure => simp [intOf]; omega
    · obtain rfl : k = len := by omega
      cases neg
      · go_wp2_with fail
        go_ret
        exact ⟨rfl, rfl⟩
      · go_wp2_with fail
        go_ret
        exact ⟨rfl, rfl⟩

set_option maxHeartbeats 1600000 in
theorem modelC1 (op mod n : Int) (neg : Bool) (a : Option Addr) (len cap : Nat) (R : Nat → Int × Int) (w : World) (h : Rng w a len R) (hl : len ≤ 1024) (n0 : 0 ≤ n) (n1 : n ≤ 18446744073709551615) (m0 : 0 ≤ mod) (m1 : mod ≤ 18446744073709551615) (e1 : (op == 110) = false) (e2 : (op == 105) = false) (e3 : (mod != 0) = true) :
    Calls Yba.prog 6 #[.int .u8 op, .int .u64 mod, .bool neg, .slice a len cap, .int .u64 n] w fun e w' => e = .returned (.bool (anyB (xOf op mod n) R len != neg)) ∧ w' = w := by
  have hop : opHit op = false := by simp [opHit, e1, e2]
  have hxo : xOf op mod n = 0 := by unfold xOf; rw [if_neg (by simpa using e3), hop]; simp
  rw [hxo]
  clear hop hxo
  have hmz : mod ≠ 0 := by simpa using e3
  have hmp : 0 < mod := by omega
  clear hmz
  go_enter Yba.func6, Yba.ntmps6
  go_wp2_with fail
  go_loop [12, 13] (fun t i => ∃ k : Nat, k ≤ len ∧ i = .int .i64 k ∧ t = .bool (anyB 0 R k)) (fun _ i => len - (intOf i).toNat)
  case atStart => exact ⟨0, Nat.zero_le _, rfl, rfl⟩
  case round =>
    obtain ⟨k, hk, rfl, rfl⟩ := hrel
    by_cases hlt : k < len
    · obtain ⟨b, off, rfl, g0, g1⟩ := h.elem k hlt
      have hki : (k : Int) < (len : Int) := by omega
      have hs := anyB_succ 0 R k
      generalize (R k).1 = lo at *
      generalize (R k).2 = hi at *
      cases d1 : decide (lo ≤ 0)
      · have H : Hid (anyB 0 R (k + 1) = anyB 0 R k) := by show _ = _; rw [hs, hit_def 0 lo hi _ _ d1 rfl, Bool.false_and, Bool.or_false]
        clear hs
        go_wp2_with fail
        go_round
        case rel => exact ⟨k + 1, by omega, by go_num, by rw [H.out]⟩
        case measure => simp [intOf]; omega
      · cases d2 : decide (0 ≤ hi)
        · have H : Hid (anyB 0 R (k + 1) = anyB 0 R k) := by show _ = _; rw [hs, hit_def 0 lo hi _ _ d1 d2, Bool.and_false, Bool.or_false]
          clear hs
          go_wp2_with fail
          go_round
          case rel => exact ⟨k + 1, by omega, by go_num, by rw [H.out]⟩
          case measure => simp [intOf]; omega
        · have H : Hid (anyB 0 R (k + 1) = true) := by show _ = _; rw [hs, hit_def 0 lo hi _ _ d1 d2, Bool.and_self, Bool.or_true]
          clear hs
          go_wp2_with fail
          go_round
          case rel => exact ⟨k + 1, by omega, by go_num, by rw [H.out]⟩
          case measure => simp [intOf]; omega
    · obtain rfl : k = len := by omega
      cases neg
      · go_wp2_with fail
        go_ret
        exact ⟨rfl, rfl⟩
      · go_wp2_with fail
        go_ret
        exact ⟨rfl, rfl⟩

theorem model6 (op mod n : Int) (neg : Bool) (a : Option Addr) (len cap : Nat) (R : Nat → Int × Int) (w : World) (h : Rng w a len R) (hl : len ≤ 1024) (n0 : 0 ≤ n) (n1 : n ≤ 18446744073709551615) (m0 : 0 ≤ mod) (m1 : mod ≤ 18446744073709551615) :
    Calls Yba.prog 6 #[.int .u8 op, .int .u64 mod, .bool neg, .slice a len cap, .int .u64 n] w fun e w' => e = .returned (.bool (anyB (xOf op mod n) R len != neg)) ∧ w' = w := by
  cases e1 : (op == 110) <;> cases e3 : (mod != 0)
  · cases e2 : (op == 105)
    · exact modelC0 op mod n neg a len cap R w h hl n0 n1 m0 m1 e1 e2 e3
    · exact modelB0 op mod n neg a len cap R w h hl n0 n1 m0 m1 e1 e2 e3
  · cases e2 : (op == 105)
    · exact modelC1 op mod n neg a len cap R w h hl n0 n1 m0 m1 e1 e2 e3
    · exact modelB1 op mod n neg a len cap R w h hl n0 n1 m0 m1 e1 e2 e3
  · exact modelA0 op mod n neg a len cap R w h hl n0 n1 m0 m1 e1 e3
  · exact modelA1 op mod n neg a len cap R w h hl n0 n1 m0 m1 e1 e3

end Go.Proofs.Ybulkbers
