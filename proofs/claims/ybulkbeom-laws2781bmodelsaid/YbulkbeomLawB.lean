/-
  LawS2781BModel, WALKED.
-/
import Derived.Test.YbulkbeomWin
import Derived.Deep.CutRange
import Derived.Deep.Cut
import Derived.Deep.DeepCutAuto
import Derived.Deep.CutBlock
import Derived.BigQuiet
import Derived.Lib.Builder
namespace Go.Proofs.Ybulkbeom.pendB
open Go.RowKit
set_option linter.unusedVariables false

/-- The keys that came in. -/
structure Keys (w : World) (a : Option Addr) (n : Nat) (Z : Nat → Int) : Prop where
  elem : ∀ i, i < n → ∃ b off, a = some ⟨b, off, none⟩ ∧ w.cell? ⟨b, off + i, none⟩ = some (.int .u16 (Z i)) ∧ 0 ≤ Z i ∧ Z i ≤ 65535

theorem Keys.below {w w' : World} {a : Option Addr} {n : Nat} {Z : Nat → Int} (h : Keys w a n Z) (hb : Below w.heap.size w w') : Keys w' a n Z := by
  refine ⟨fun i hi => ?_⟩
  obtain ⟨b, off, e, hc, hr⟩ := h.elem i hi
  exact ⟨b, off, e, (hb.cell (World.block_lt_of_cell? _ _ hc)).trans hc, hr⟩

/-- Entries there are. -/
structure Live (w : World) (base pb ctr l N lo mb : Nat) (K : Nat → Int) (B : Nat → Nat) (D : DataW Unit) (g1 o1 c1 g2 o2 c2 : Nat) : Prop where
  st : St w base pb ctr mb lo l K B D
  cnt : lo + N = l + 1
  le : N ≤ 256
  full : lo = 0 ∨ N = 256
  w1 : Win w base g1 o1 N c1 (fun j => K (lo + j))
  w2 : Win w base g2 o2 N c2 (fun j => ((lo + j + 1 : Nat) : Int))
  n12 : g1 ≠ g2
  n1 : g1 ≠ ctr
  n2 : g2 ≠ ctr

theorem St.ctrCell {w : World} {base pb ctr mb lo l : Nat} {K : Nat → Int} {B : Nat → Nat} {D : DataW Unit} (h : St w base pb ctr mb lo l K B D) : w.cell? ⟨ctr, 0, none⟩ = some (.int .i64 ((l : Int) + 1)) := by
  have := cell_of_row w ctr 0 _ _ _ h.cnt
  simpa using this

theorem Win.isRow {w : World} {base g off n cap : Nat} {f : Nat → Int} (h : Win w base g off n cap f) : ∃ a, w.heap[g]? = some (.cells a 3) := let ⟨cur, hr, _⟩ := h.row; ⟨cur, hr⟩

theorem Live.pushed {w1 wA wB : World} {base pb ctr mb lo l m : Nat} {K : Nat → Int} {B : Nat → Nat} {D : DataW Unit} (hS : St w1 base pb ctr mb lo (l + 1) K B D) {g1 o1 c1 g2 o2 c2 : Nat} {f1 f2 : Nat → Int} (W1 : Win w1 base g1 o1 m c1 f1) (W2 : Win w1 base g2 o2 m c2 f2)
    (n12 : g1 ≠ g2) (n1 : g1 ≠ ctr) (n2 : g2 ≠ ctr) {oa ob : Obj} {g1' o1' c1' g2' o2' c2' : Nat} {key x : Int} (hA1 : Win wA base g1' o1' (m + 1) c1' (upd f1 m key)) (hgA : (w1.alloc oa).grownBy wA (some g1)) (hatA : g1' = g1 ∨ (w1.alloc oa).heap.size ≤ g1')
    (hB2 : Win wB base g2' o2' (m + 1) c2' (upd f2 m x)) (hgB : (wA.alloc ob).grownBy wB (some g2)) (hatB : g2' = g2 ∨ (wA.alloc ob).heap.size ≤ g2')
    (hm : lo + m = l + 1) (hle : m + 1 ≤ 256) (hfull : lo = 0 ∨ m + 1 = 256) (hf1 : ∀ j, j < m → K (lo + j) = f1 j) (hk : K (l + 1) = key) (hf2 : ∀ j, j < m → ((lo + j + 1 : Nat) : Int) = f2 j) (hx : x = (l : Int) + 1 + 1) :
    Live wB base pb ctr (l + 1) (m + 1) lo mb K B D g1' o1' c1' g2' o2' c2' := by
  have s1 : ctr < w1.heap.size := (Array.getElem?_eq_some_iff.1 hS.cnt).1
  have s2 := W2.lt
  have s3 := W1.lt
  have s4 := hA1.lt
  have z1 : w1.heap.size + 1 ≤ wA.heap.size := by have := hgA.size; simpa using this
  have z2 : (w1.alloc oa).heap.size = w1.heap.size + 1 := by simp
  have z3 : (wA.alloc ob).heap.size = wA.heap.size + 1 := by simp
  have hSA : St wA base pb ctr mb lo (l + 1) K B D := (hS.alloc oa).grown hgA (fun g e => by cases e; exact ⟨(W1.alloc oa).isRow, n1⟩)
  have W2A : Win wA base g2 o2 m c2 f2 := (W2.alloc oa).kept hgA (by simpa using n12.symm)
  have hSB : St wB base pb ctr mb lo (l + 1) K B D := (hSA.alloc ob).grown hgB (fun g e => by cases e; exact ⟨(W2A.alloc ob).isRow, n2⟩)
  have e12 : g1' ≠ g2' := by
    rcases hatA with h | h <;> rcases hatB with h' | h' <;> omega
  have hne : g1' ≠ g2 := by rcases hatA with h | h <;> omega
  refine ⟨hSB, by omega, hle, hfull, ((hA1.alloc ob).kept hgB (by simpa using hne)).ext (fun j hj => ?_), hB2.ext (fun j hj => ?_), e12, ?_, ?_⟩
  · by_cases e : j = m
    · subst e; rw [upd_same, hm, hk]
    · rw [upd_other _ _ e]; exact hf1 j (by omega)
  · by_cases e : j = m
    · subst e; rw [upd_same, hx]; omega
    · rw [upd_other _ _ e]; exact hf2 j (by omega)
  · rcases hatA with h | h <;> omega
  · rcases hatB with h | h <;> omega

theorem ptr_ne_same (x : Option Addr) (w : World) : (binOp .neq 39 (.pointer x) (.pointer x)).run Yba.prog w = .ok (.bool false) w := by
  cases x with
  | none => kernel_rfl
  | some a =>
    obtain ⟨j, hj⟩ : ∃ j, Yba.prog.info? 46 = some j := Option.isSome_iff_exists.1 (by kernel_rfl)
    exact Lib.run_neq_ptr_same w a Yba.underlying39 hj

/-- None yet. -/
structure Bare (w : World) (pb ctr : Nat) : Prop where
  p : w.heap[pb]? = some (.cells #[.map none, .pointer none, .pointer none] 41)
  cnt : w.heap[ctr]? = some (.cells #[.int .i64 ((0 : Nat) : Int)] 3)

def Rel (w : World) (base pb ctr : Nat) (k : Nat) (mk mv mc : Value) : Prop :=
  (mk = .slice none 0 0 ∧ mv = .slice none 0 0 ∧ mc = .int .i64 0 ∧ Bare w pb ctr) ∨
  ∃ l N lo mb K B D g1 o1 c1 g2 o2 c2, l < k ∧ mk = .slice (some ⟨g1, o1, none⟩) N c1 ∧ mv = .slice (some ⟨g2, o2, none⟩) N c2 ∧ mc = .int .i64 ((l + 1 : Nat) : Int) ∧ Live w base pb ctr l N lo mb K B D g1 o1 c1 g2 o2 c2

set_option maxRecDepth 100000 in
set_option maxHeartbeats 4000000 in
theorem law_walk (pre : Int) (ka : Option Addr) (klen kcap : Nat) (Z : Nat → Int) (w : World) (hK : Keys w ka klen Z) (hl : klen ≤ 1024) (p0 : 0 ≤ pre) (p1 : pre ≤ 65535) :
    Calls Yba.prog 5 #[.int .u16 pre, .slice ka klen kcap] w fun e w' => e = .returned (.bool true) ∧ Below w.heap.size w w' := by
  have hmf : ∀ (fn : Fn) (first cap : Array Value) (w : World), (Instr.makeFunc fn first cap).run Yba.prog w = .ok (.func fn first cap) w := fun _ _ _ _ => rfl
  obtain ⟨n, hn, hn3⟩ : ∃ n : Nat, pre % 300 = (n : Int) ∧ n < 300 := ⟨(pre % 300).toNat, by omega, by omega⟩
  have m0 : 0 ≤ pre % 300 := by omega
  have m1 : pre % 300 < 300 := by omega
  go_enter Yba.func5, Yba.ntmps5
  go_wp2_with fail
  rw [hn]
  clear m0 m1
  go_loopw [10, 11, 12, 13] (fun mk mv mc i wr => ∃ k : Nat, k ≤ n + klen ∧ i = .int .i64 k ∧ Below w.heap.size w wr ∧ Rel wr w.heap.size w.heap.size (w.heap.size + 1) k mk mv mc) (fun _ _ _ i _ => n + klen - (intOf i).toNat)
  case atStart =>
    exact ⟨0, Nat.zero_le _, rfl, ((Below.refl _ _).alloc (Nat.le_refl _) _).alloc (by simp) _, .inl ⟨rfl, rfl, rfl, heap_alloc2_old w _ _, by
      have := heap_alloc_new (w.alloc (.cells #[.map none, .pointer none, .pointer none] 41)) (.cells #[.int .i64 0] 3)
      simpa using this⟩⟩
  case round =>
    obtain ⟨k, hk, rfl, hbw, hrel⟩ := hrel
    by_cases hlt : k < n + klen
    · have hki : (k : Int) < (n : Int) + (klen : Int) := by omega
      go_upto_if 41 with fail
      go_cut [14] (fun kv wx => (∃ key : Int, kv = .int .i64 key ∧ 0 ≤ key ∧ key ≤ 65535) ∧ wx = wr)
      case first =>
        by_cases hge : k < n
        · have hgi : (k : Int) < (n : Int) := by omega
          go_wp2_with fail
          go_meet
          case rel => exact ⟨⟨(k : Int), rfl, by omega, by omega⟩, rfl⟩
        · obtain ⟨q, rfl⟩ : ∃ q, k = n + q := ⟨k - n, by omega⟩
          obtain ⟨b, off, rfl, hc, z0, z1⟩ := (hK.below hbw).elem q (by omega)
          have hqi : (q : Int) < (klen : Int) := by omega
          go_wp2_with fail
          go_meet
          case rel => exact ⟨⟨_, rfl, z0, z1⟩, rfl⟩
      case rest =>
        obtain ⟨⟨key, rfl, k0, k1⟩, rfl⟩ := hcut
        have hsz : w.heap.size ≤ wc.heap.size := hbw.size
        rcases hrel with ⟨rfl, rfl, rfl, hB⟩ | ⟨l, N, lo, mb, K, B, D, g1, o1, c1, g2, o2, c2, hlk, rfl, rfl, rfl, hL⟩
        · go_wp2_with fail
          refine (get_first (base := w.heap.size) (Nat.le_refl _) (Nat.le_succ _) hB.p hB.cnt key k0 k1).mono ?_
          rintro e w1 ⟨rfl, mb, K, B, D, hS, hF, hK0⟩
          have hs1 : w.heap.size ≤ w1.heap.size := Nat.le_trans hsz hF.below.size
          go_wp2_with fail
          go_loop [16, 17, 18] (fun a b c => a = .int .i64 0 ∧ b = .bool false ∧ c = .int .i64 0) (fun _ _ _ => 0)
          case atStart => exact ⟨rfl, rfl, rfl⟩
          case round =>
            obtain ⟨rfl, rfl, rfl⟩ := hrel
            go_wp2_with (first
              | (at_builtin; refine wpList_append_first _ rfl _ _ rfl w.heap.size rfl _ key rfl (heap_alloc_new _ _) (by simp; omega) ?_; intro g1 c1 wA hW1 hg1 hl1)
              | (at_builtin; refine wpList_append_first _ rfl _ _ rfl w.heap.size rfl _ 1 rfl (heap_alloc_new _ _) (by have := hg1.size; simp at this ⊢; omega) ?_; intro g2 c2 wB hW2 hg2 hl2; have hSB : St wB w.heap.size w.heap.size (w.heap.size + 1) mb 0 0 K B D := (((hS.alloc _).grown hg1 (by simp)).alloc _).grown hg2 (by simp); have hcc : wB.cell? ⟨w.heap.size + 1, 0, none⟩ = some (.int .i64 1) := hSB.ctrCell))
            go_roundw
            case rel =>
              have q1 : g1 < wA.heap.size := hW1.lt
              have q2 : (w1.alloc (.cells #[.int .i64 key] 3)).heap.size = w1.heap.size + 1 := by simp
              have q3 : (wA.alloc (.cells #[.int .i64 1] 3)).heap.size = wA.heap.size + 1 := by simp
              have q4 : w.heap.size + 1 < w1.heap.size := (Array.getElem?_eq_some_iff.1 hS.cnt).1
              have bA : Below w.heap.size w wA := ((hbw.trans hF.below).alloc hs1 _).grown hg1 (by omega) (by simp)
              have bB : Below w.heap.size w wB := (bA.alloc bA.size _).grown hg2 (by have := bA.size; omega) (by simp)
              refine ⟨k + 1, by omega, by go_num, bB, .inr ⟨0, 1, 0, mb, K, B, D, g1, 0, c1, g2, 0, c2, by omega, rfl, rfl, rfl, hSB, rfl, by omega, .inl rfl, ((hW1.alloc _).kept hg2 (by simp)).ext (fun j hj => ?_), hW2.ext (fun j hj => ?_), by omega, by omega, by omega⟩⟩
              · obtain rfl : j = 0 := by omega
                exact hK0
              · obtain rfl : j = 0 := by omega
                rfl
            case measure => simp [intOf]; omega
        · have hst := hL.st
          have hcnt := hL.cnt
          have hle := hL.le
          have hl0 := hst.le
          by_cases hhit : ∃ q, q < N ∧ K (lo + q) = key
          · obtain ⟨qh, hq1, hq2⟩ := hhit
            have hcc : wc.cell? ⟨w.heap.size + 1, 0, none⟩ = some (.int .i64 ((l : Int) + 1)) := hst.ctrCell
            go_wp2_with fail
            refine (get_hit hst (j := lo + qh) (by omega) (by omega) key hq2).mono ?_
            rintro e w1 ⟨rfl, rfl⟩
            go_upto_block 2 with fail
            go_cut [16, 17, 18] (fun a b c wx => a = .int .i64 ((lo + qh + 1 : Nat) : Int) ∧ b = .bool true ∧ wx = w1)
            case first =>
              go_wp2_with fail
              go_loop [16, 17, 18] (fun a b c => ∃ q : Nat, a = .int .i64 0 ∧ b = .bool false ∧ c = .int .i64 q ∧ q ≤ qh) (fun _ _ c => N - (intOf c).toNat)
              case atStart => exact ⟨0, rfl, rfl, rfl, Nat.zero_le _⟩
              case round =>
                obtain ⟨q, rfl, rfl, rfl, hq⟩ := hrel
                have hqN : (q : Int) < (N : Int) := by omega
                have a1 := hL.w1.cell (j := q) (by omega)
                have a2 := hL.w2.cell (j := q) (by omega)
                by_cases e : q = qh
                · subst e
                  rw [hq2] at a1
                  go_wp2_with fail
                  go_meet
                  case rel => exact ⟨rfl, rfl, rfl⟩
                · have hne : (K (lo + q) == key) = false := by
                    simp only [beq_eq_false_iff_ne, ne_eq]
                    intro e'
                    have := hst.keys (lo + q) (lo + qh) (by omega) (by omega) (by omega) (by omega) (e'.trans hq2.symm)
                    omega
                  generalize K (lo + q) = kq at *
                  go_wp2_with fail
                  go_round
                  case rel => exact ⟨q + 1, rfl, rfl, by go_num, by omega⟩
                  case measure => simp [intOf]; omega
            case rest =>
              obtain ⟨rfl, rfl, rfl⟩ := hcut
              go_wp2_with fail
              go_roundw
              case rel => exact ⟨k + 1, by omega, by go_num, hbw, .inr ⟨l, N, lo, mb, K, B, D, g1, o1, c1, g2, o2, c2, by omega, rfl, rfl, rfl, hL⟩⟩
              case measure => simp [intOf]; omega
          · have hmiss : ∀ j, lo ≤ j → j ≤ l → K j ≠ key := fun j j1 j2 e => hhit ⟨j - lo, by omega, by rw [show lo + (j - lo) = j by omega]; exact e⟩
            clear hhit
            by_cases hN : N < 256
            · have hlo : lo = 0 := by rcases hL.full with h | h <;> omega
              go_wp2_with fail
              refine (get_new hst (by omega) (by omega) key hmiss k0 k1).mono ?_
              rintro e w1 ⟨rfl, K', B', D', hS, hF, hK1, hKo⟩
              have hs1 : w.heap.size ≤ w1.heap.size := Nat.le_trans hsz hF.below.size
              have W1 := hL.w1.fr hF hL.n1
              have W2 := hL.w2.fr hF hL.n2
              go_upto_block 2 with fail
              go_cut [16, 17, 18] (fun a b c wx => a = .int .i64 0 ∧ b = .bool false ∧ wx = w1)
              case first =>
                go_wp2_with fail
                go_loop [16, 17, 18] (fun a b c => ∃ q : Nat, a = .int .i64 0 ∧ b = .bool false ∧ c = .int .i64 q ∧ q ≤ N) (fun _ _ c => N - (intOf c).toNat)
                case atStart => exact ⟨0, rfl, rfl, rfl, Nat.zero_le _⟩
                case round =>
                  obtain ⟨q, rfl, rfl, rfl, hq⟩ := hrel
                  by_cases hqn : q < N
                  · have hqN : (q : Int) < (N : Int) := by omega
                    have a1 := W1.cell (j := q) hqn
                    have hne : (K (lo + q) == key) = false := by
                      simp only [beq_eq_false_iff_ne, ne_eq]
                      exact hmiss (lo + q) (by omega) (by omega)
                    generalize K (lo + q) = kq at *
                    go_wp2_with fail
                    go_round
                    case rel => exact ⟨q + 1, rfl, rfl, by go_num, by omega⟩
                    case measure => simp [intOf]; omega
                  · obtain rfl : q = N := by omega
                    go_wp2_with fail
                    go_meet
                    case rel => exact ⟨rfl, rfl, rfl⟩
              case rest =>
                obtain ⟨rfl, rfl, rfl⟩ := hcut
                have hNi : (N : Int) < 256 := by omega
                go_wp2_with (first
                  | (at_builtin; refine wpList_append_win _ rfl _ _ rfl w.heap.size g1 o1 N c1 _ rfl (W1.alloc _) _ key rfl (heap_alloc_new _ _) (by omega) (by simp; omega) ?_; intro g1' o1' c1' wA hA1 hgA hatA)
                  | (at_builtin; refine wpList_append_win _ rfl _ _ rfl w.heap.size g2 o2 N c2 _ rfl (((W2.alloc _).kept hgA (by simpa using hL.n12.symm)).alloc _) _ ((l : Int) + 1 + 1) rfl (heap_alloc_new _ _) (by omega) (by have := hgA.size; simp at this ⊢; omega) ?_; intro g2' o2' c2' wB hB2 hgB hatB; have hLn : Live wB w.heap.size w.heap.size (w.heap.size + 1) (l + 1) (N + 1) lo mb K' B' D' g1' o1' c1' g2' o2' c2' := Live.pushed hS W1 W2 hL.n12 hL.n1 hL.n2 hA1 hgA hatA hB2 hgB hatB hcnt (by omega) (by omega) (fun j hj => hKo (lo + j) (by omega)) hK1 (fun j hj => rfl) rfl; have hcc : wB.cell? ⟨w.heap.size + 1, 0, none⟩ = some (.int .i64 ((l : Int) + 1 + 1)) := by simpa using hLn.st.ctrCell))
                go_roundw
                case rel =>
                  have bA : Below w.heap.size w wA := ((hbw.trans hF.below).alloc hs1 _).grown hgA (by simp; omega) (fun g e => by cases e; exact W1.b)
                  have bB : Below w.heap.size w wB := (bA.alloc bA.size _).grown hgB (by have := bA.size; simp; omega) (fun g e => by cases e; exact W2.b)
                  exact ⟨k + 1, by omega, by go_num, bB, .inr ⟨l + 1, N + 1, lo, mb, K', B', D', g1', o1', c1', g2', o2', c2', by omega, rfl, rfl, by go_num, hLn⟩⟩
                case measure => simp [intOf]; omega
            · obtain rfl : N = 256 := by omega
              obtain ⟨d1, rfl⟩ : ∃ d, c1 = d + 1 := ⟨c1 - 1, by have := hL.w1.le; omega⟩
              obtain ⟨d2, rfl⟩ : ∃ d, c2 = d + 1 := ⟨c2 - 1, by have := hL.w2.le; omega⟩
              go_wp2_with fail
              refine (get_full hst (by omega) (by omega) key hmiss k0 k1).mono ?_
              rintro e w1 ⟨rfl, K', B', D', hS, hF, hK1, hKo⟩
              have hs1 : w.heap.size ≤ w1.heap.size := Nat.le_trans hsz hF.below.size
              have W1 := hL.w1.fr hF hL.n1
              have W2 := hL.w2.fr hF hL.n2
              have T1 : Win w1 w.heap.size g1 (o1 + 1) 255 d1 (fun j => K (lo + (j + 1))) := W1.tail
              have T2 : Win w1 w.heap.size g2 (o2 + 1) 255 d2 (fun j => ((lo + (j + 1) + 1 : Nat) : Int)) := W2.tail
              have t1 := T1.le
              have t2 := T2.le
              go_upto_block 2 with fail
              go_cut [16, 17, 18] (fun a b c wx => a = .int .i64 0 ∧ b = .bool false ∧ wx = w1)
              case first =>
                go_wp2_with fail
                go_loop [16, 17, 18] (fun a b c => ∃ q : Nat, a = .int .i64 0 ∧ b = .bool false ∧ c = .int .i64 q ∧ q ≤ 256) (fun _ _ c => 256 - (intOf c).toNat)
                case atStart => exact ⟨0, rfl, rfl, rfl, Nat.zero_le _⟩
                case round =>
                  obtain ⟨q, rfl, rfl, rfl, hq⟩ := hrel
                  by_cases hqn : q < 256
                  · have hqN : (q : Int) < 256 := by omega
                    have a1 := W1.cell (j := q) hqn
                    have hne : (K (lo + q) == key) = false := by
                      simp only [beq_eq_false_iff_ne, ne_eq]
                      exact hmiss (lo + q) (by omega) (by omega)
                    generalize K (lo + q) = kq at *
                    go_wp2_with fail
                    go_round
                    case rel => exact ⟨q + 1, rfl, rfl, by go_num, by omega⟩
                    case measure => simp [intOf]; omega
                  · obtain rfl : q = 256 := by omega
                    go_wp2_with fail
                    go_meet
                    case rel => exact ⟨rfl, rfl, rfl⟩
              case rest =>
                obtain ⟨rfl, rfl, rfl⟩ := hcut
                go_wp2_with (first
                  | (at_builtin; refine wpList_append_win _ rfl _ _ rfl w.heap.size g1 (o1 + 1) 255 d1 _ rfl (T1.alloc _) _ key rfl (heap_alloc_new _ _) (by omega) (by simp; omega) ?_; intro g1' o1' c1' wA hA1 hgA hatA)
                  | (at_builtin; refine wpList_append_win _ rfl _ _ rfl w.heap.size g2 (o2 + 1) 255 d2 _ rfl (((T2.alloc _).kept hgA (by simpa using hL.n12.symm)).alloc _) _ ((l : Int) + 1 + 1) rfl (heap_alloc_new _ _) (by omega) (by have := hgA.size; simp at this ⊢; omega) ?_; intro g2' o2' c2' wB hB2 hgB hatB; have hLn : Live wB w.heap.size w.heap.size (w.heap.size + 1) (l + 1) (255 + 1) (lo + 1) mb K' B' D' g1' o1' c1' g2' o2' c2' := Live.pushed hS T1 T2 hL.n12 hL.n1 hL.n2 hA1 hgA hatA hB2 hgB hatB (by omega) (by omega) (by omega) (fun j hj => by rw [show lo + 1 + j = lo + (j + 1) by omega]; exact hKo (lo + (j + 1)) (by omega)) hK1 (fun j hj => by omega) rfl; have hcc : wB.cell? ⟨w.heap.size + 1, 0, none⟩ = some (.int .i64 ((l : Int) + 1 + 1)) := by simpa using hLn.st.ctrCell))
                go_roundw
                case rel =>
                  have bA : Below w.heap.size w wA := ((hbw.trans hF.below).alloc hs1 _).grown hgA (by simp; omega) (fun g e => by cases e; exact T1.b)
                  have bB : Below w.heap.size w wB := (bA.alloc bA.size _).grown hgB (by have := bA.size; simp; omega) (fun g e => by cases e; exact T2.b)
                  exact ⟨k + 1, by omega, by go_num, bB, .inr ⟨l + 1, 255 + 1, lo + 1, mb, K', B', D', g1', o1', c1', g2', o2', c2', by omega, rfl, rfl, by go_num, hLn⟩⟩
                case measure => simp [intOf]; omega
    · have hki : ¬ ((k : Int) < (n : Int) + (klen : Int)) := by omega
      rcases hrel with ⟨rfl, rfl, rfl, hB⟩ | ⟨l, N, lo, mb, K, B, D, g1, o1, c1, g2, o2, c2, hlk, rfl, rfl, rfl, hL⟩
      · have q0 : wr.cell? ⟨w.heap.size, 0, none⟩ = some (.map none) := cell_of_row wr _ 0 _ _ _ hB.p
        have q1 : wr.cell? ⟨w.heap.size, 1, none⟩ = some (.pointer none) := cell_of_row wr _ 1 _ _ _ hB.p
        have q2 : wr.cell? ⟨w.heap.size, 2, none⟩ = some (.pointer none) := cell_of_row wr _ 2 _ _ _ hB.p
        have hlen := fun ty => Maps.len_nil (w := wr) Yba.underlying38 ty
        go_wp2_with fail
        go_loop [19, 20, 21] (fun a b c => a = .pointer none ∧ b = .pointer none ∧ c = .int .i64 0) (fun _ _ _ => 0)
        case atStart => exact ⟨rfl, rfl, rfl⟩
        case round =>
          obtain ⟨rfl, rfl, rfl⟩ := hrel
          go_wp2_with fail
          go_ret
          exact ⟨rfl, hbw⟩
      · have hst := hL.st
        have hcnt := hL.cnt
        have hle := hL.le
        have hl0 := hst.le
        have q0 : wr.cell? ⟨w.heap.size, 0, none⟩ = some (.map (some mb)) := cell_of_row wr _ 0 _ _ _ hst.p
        have q1 : wr.cell? ⟨w.heap.size, 1, none⟩ = some (.pointer (some ⟨B lo, 0, none⟩)) := cell_of_row wr _ 1 _ _ _ hst.p
        have q2 : wr.cell? ⟨w.heap.size, 2, none⟩ = some (.pointer (some ⟨B l, 0, none⟩)) := cell_of_row wr _ 2 _ _ _ hst.p
        have hlen : ∀ ty, (Builtin.len_ #[38] ty #[.map (some mb)]).run Yba.prog wr = .ok (.int .i64 (N : Int)) wr := fun ty => by
          have := hst.map.len ty
          rw [show l + 1 - lo = N by omega] at this
          exact this
        go_wp2_with fail
        go_loopw [19, 20, 21] (fun a b c wl => ∃ q d : Nat, q ≤ N ∧ c = .int .i64 q ∧ a = .pointer (prevOf lo B (lo + q)) ∧ b = .pointer (if q = N then none else some ⟨B (lo + q), 0, none⟩) ∧ wl = wr.drewN d) (fun _ _ c _ => N - (intOf c).toNat)
        case atStart =>
          refine ⟨0, 0, Nat.zero_le _, rfl, by simp [prevOf], ?_, rfl⟩
          rw [if_neg (by omega)]
          rfl
        case round =>
          obtain ⟨q, d, hq, rfl, rfl, rfl, rfl⟩ := hrel
          by_cases hqn : q < N
          · have hqi : (q : Int) < (N : Int) := by omega
            have hent := (hst.ent (lo + q) (by omega) (by omega)).2
            have e0 : wr.cell? ⟨B (lo + q), 0, none⟩ = some (.int .i64 (K (lo + q))) := cell_of_row wr _ 0 _ _ _ hent
            have e1 : wr.cell? ⟨B (lo + q), 1, none⟩ = some (.int .i64 ((lo + q + 1 : Nat) : Int)) := cell_of_row wr _ 1 _ _ _ hent
            have e2 : wr.cell? ⟨B (lo + q), 2, none⟩ = some (.pointer (prevOf lo B (lo + q))) := cell_of_row wr _ 2 _ _ _ hent
            have e3 : wr.cell? ⟨B (lo + q), 3, none⟩ = some (.pointer (nextOf l B (lo + q))) := cell_of_row wr _ 3 _ _ _ hent
            have a1 := hL.w1.cell (j := q) hqn
            have a2 := hL.w2.cell (j := q) hqn
            have hlk : ∀ m, (Instr.lookup 38 (.map (some mb)) (.int .i64 (K (lo + q))) false).run Yba.prog (wr.drewN m) = .ok (.pointer (some ⟨B (lo + q), 0, none⟩)) (wr.drewN m) := fun m =>
              Mp.look_plain (w := wr.drewN m) ⟨hst.map.own, hst.map.size, hst.map.hit, hst.map.miss⟩ (j := lo + q) (by omega) (by omega) (hst.rng (lo + q) (by omega) (by omega)).1 (hst.rng (lo + q) (by omega) (by omega)).2
            have hlk2 : ∀ d m, (Instr.lookup 38 (.map (some mb)) (.int .i64 (K (lo + q))) false).run Yba.prog ((wr.drewN d).drewN m) = .ok (.pointer (some ⟨B (lo + q), 0, none⟩)) ((wr.drewN d).drewN m) := fun d m => by
              rw [World.drewN_drewN]; exact hlk _
            rw [if_neg (by omega)]
            have hE : Hid (prevOf lo B (lo + (q + 1)) = some ⟨B (lo + q), 0, none⟩) := show _ = _ by unfold prevOf; rw [if_neg (by omega)]; rfl
            have hX : Hid (nextOf l B (lo + q) = if q + 1 = N then none else some ⟨B (lo + (q + 1)), 0, none⟩) := show _ = _ by
              unfold nextOf
              by_cases e : q + 1 = N
              · rw [if_pos e, if_pos (by omega)]
              · rw [if_neg e, if_neg (by omega)]; rfl
            generalize hpv : prevOf lo B (lo + q) = pv at *
            generalize hnx : nextOf l B (lo + q) = nx at *
            have hpn := fun wx => ptr_ne_same pv wx
            have hpm := fun wx => ptr_ne_same (some ⟨B (lo + q), 0, none⟩) wx
            go_wp2_with fail
            clear hlen q1 q2
            go_quiet (fail)
            go_wp2_with fail
            go_roundw
            case rel => exact ⟨q + 1, _, by omega, by go_num, by rw [hE.out], by rw [← hX.out], rfl⟩
            case measure => simp [intOf]; omega
          · obtain rfl : q = N := by omega
            have hpv : prevOf lo B (lo + q) = some ⟨B l, 0, none⟩ := by
              unfold prevOf
              rw [if_neg (by omega), show lo + q - 1 = l by omega]
            rw [hpv, if_pos rfl]
            have hpn := fun wx => ptr_ne_same (some ⟨B l, 0, none⟩) wx
            go_wp2_with fail
            go_ret
            exact ⟨rfl, hbw.os, hbw.tape, hbw.output, hbw.size, hbw.block⟩
end Go.Proofs.Ybulkbeom.pendB
