import Derived.Test.Qxb6601723aC
namespace Go.Proofs.Qxb6601723a
open Go.RowKit
set_option linter.unusedVariables false

theorem zz_none (L : Nat) (a : Option Addr) (c : Nat) (o : Option Addr) (w : World) (h1 : w.cell? ⟨L, 1, none⟩ = some (.slice a 0 c)) :
    Calls Try.prog 11 #[.pointer (some ⟨L, 0, none⟩), .pointer o] w fun e w' => e = .returned (.pointer none) ∧ ∃ k, w' = w.drewN k := by
  go_enter Try.func11, Try.ntmps11
  go_wp2_with (go_at_call 24; refine (reached_none L a c o _ h1).mono ?_; rintro e w' ⟨rfl, hw⟩)
  go_ret
  exact ⟨rfl, hw⟩

theorem zz_market (L g V O : Nat) (n c : Nat) (w : World) (h1 : w.cell? ⟨L, 1, none⟩ = some (.slice (some ⟨g, 0, none⟩) (n + 1) c)) (hn : n ≤ 1048576)
    (hv : w.cell? ⟨g, n, none⟩ = some (.pointer (some ⟨V, 0, none⟩))) (ht : w.cell? ⟨O, 2, none⟩ = some (.int .u8 1)) :
    Calls Try.prog 11 #[.pointer (some ⟨L, 0, none⟩), .pointer (some ⟨O, 0, none⟩)] w fun e w' => e = .returned (.pointer (some ⟨V, 0, none⟩)) ∧ ∃ k, w' = w.drewN k := by
  go_enter Try.func11, Try.ntmps11
  go_wp2_with (go_at_call 24; refine (reached_market L g V O n c _ h1 hn hv ht).mono ?_; rintro e w' ⟨rfl, hw⟩)
  go_ret
  exact ⟨rfl, hw⟩

theorem zz_limit (L g V O : Nat) (n c : Nat) (b : Bool) (t p q : Int) (w : World) (h0 : w.cell? ⟨L, 0, none⟩ = some (.bool b)) (h1 : w.cell? ⟨L, 1, none⟩ = some (.slice (some ⟨g, 0, none⟩) (n + 1) c)) (hn : n ≤ 1048576)
    (hv : w.cell? ⟨g, n, none⟩ = some (.pointer (some ⟨V, 0, none⟩))) (hq : w.cell? ⟨V, 0, none⟩ = some (.int .i64 q)) (ht : w.cell? ⟨O, 2, none⟩ = some (.int .u8 t)) (hp : w.cell? ⟨O, 3, none⟩ = some (.int .i64 p)) (ht1 : (t == 1) = false) (r : Bool) (hr : (if b then decide (q < p) else decide (p < q)) = r) :
    Calls Try.prog 11 #[.pointer (some ⟨L, 0, none⟩), .pointer (some ⟨O, 0, none⟩)] w fun e w' => e = .returned (.pointer (if r then none else some ⟨V, 0, none⟩)) ∧ ∃ k, w' = w.drewN k := by
  have H := fun w0 h0 h1 hv hq ht hp => reached_limit L g V O n c b t p q w0 h0 h1 hn hv hq ht hp ht1 r hr
  have HH : Hid (∀ w0 : World, w0.cell? ⟨L, 0, none⟩ = some (.bool b) → w0.cell? ⟨L, 1, none⟩ = some (.slice (some ⟨g, 0, none⟩) (n + 1) c) → w0.cell? ⟨g, n, none⟩ = some (.pointer (some ⟨V, 0, none⟩)) → w0.cell? ⟨V, 0, none⟩ = some (.int .i64 q) → w0.cell? ⟨O, 2, none⟩ = some (.int .u8 t) → w0.cell? ⟨O, 3, none⟩ = some (.int .i64 p) →
    Calls Try.prog 24 #[.pointer (some ⟨L, 0, none⟩), .pointer (some ⟨O, 0, none⟩)] w0 fun e w' => e = .returned (.pointer (if r then none else some ⟨V, 0, none⟩)) ∧ ∃ k, w' = w0.drewN k) := H
  clear H hr ht1
  cases r <;>
  · go_enter Try.func11, Try.ntmps11
    go_wp2_with (go_at_call 24; refine (HH.out _ h0 h1 hv hq ht hp).mono ?_; rintro e w' ⟨rfl, hw⟩)
    go_ret
    exact ⟨rfl, hw⟩

theorem info63 : (Try.prog.info? 63).isSome = true := by kernel_rfl
theorem neq_level (w : World) (a : Addr) : (binOp .neq 40 (.pointer (some a)) (.pointer (some a))).run Try.prog w = .ok (.bool false) w := by
  obtain ⟨j, hj⟩ := Option.isSome_iff_exists.1 info63
  exact Lib.run_neq_ptr_same w a Try.underlying40 hj

theorem bytes7 (a0 : Bool) (a1 : Option Addr) (len cap : Nat) (a2 a3 a4 : Int) (w : World) (h : len ≤ 1048576) :
   Calls Try.prog 7 #[.bool a0, .slice a1 len cap, .int .u8 a2, .int .i64 a3, .int .i64 a4] w fun e w' => e = .returned (.bool true) ∧ w' = w := by
  go_enter Try.func7, Try.ntmps7
  go_wp2
  go_ret
  exact ⟨rfl, rfl⟩
theorem bytes7_no (a0 : Bool) (a1 : Option Addr) (len cap : Nat) (a2 a3 a4 : Int) (w : World) (h : 1048576 < len) :
   Calls Try.prog 7 #[.bool a0, .slice a1 len cap, .int .u8 a2, .int .i64 a3, .int .i64 a4] w fun e w' => e = .returned (.bool false) ∧ w' = w := by
  go_enter Try.func7, Try.ntmps7
  go_wp2
  go_ret
  exact ⟨rfl, rfl⟩

/-- An order as the law makes it: its type and its price, all else zero. -/
def ord (t p : Int) : Obj := .cells #[.int .i64 0, .int .u8 0, .int .u8 t, .int .i64 p, .int .i64 0, .int .u8 0, .int .i64 0, .int .i64 0, .int .u64 0, .int .u64 0, .int .i64 0, .int .u8 0, .int .i64 0, .int .i64 0, .int .i64 0, .pointer none, .pointer none] 39

/-- What the three calls read: the ladder, its last level, the three orders. -/
structure Scene (W : World) (L g V : Nat) (n : Nat) (b : Bool) (t p q zn : Int) : Prop where
  c0 : W.cell? ⟨L, 0, none⟩ = some (.bool b)
  c1 : W.cell? ⟨L, 1, none⟩ = some (.slice (some ⟨g, 0, none⟩) (n + 1) (n + 1))
  c2 : W.cell? ⟨g, n, none⟩ = some (.pointer (some ⟨V, 0, none⟩))
  c3 : W.cell? ⟨V, 0, none⟩ = some (.int .i64 zn)
  t1 : W.cell? ⟨L + 1, 2, none⟩ = some (.int .u8 t)
  p1 : W.cell? ⟨L + 1, 3, none⟩ = some (.int .i64 p)
  t2 : W.cell? ⟨L + 1 + 1, 2, none⟩ = some (.int .u8 t)
  p2 : W.cell? ⟨L + 1 + 1, 3, none⟩ = some (.int .i64 q)
  t3 : W.cell? ⟨L + 1 + 1 + 1, 2, none⟩ = some (.int .u8 1)

theorem Scene.drewN {W : World} {L g V n : Nat} {b : Bool} {t p q zn : Int} (h : Scene W L g V n b t p q zn) (k : Nat) : Scene (W.drewN k) L g V n b t p q zn :=
  ⟨h.c0, h.c1, h.c2, h.c3, h.t1, h.p1, h.t2, h.p2, h.t3⟩

theorem below_four {B : Nat} {w w2 : World} (hb : Below B w w2) (hB : B ≤ w2.heap.size) (o0 o1 o2 o3 : Obj) : Below B w ((((w2.alloc o0).alloc o1).alloc o2).alloc o3) :=
  (((hb.alloc hB _).alloc (by simp; omega) _).alloc (by simp; omega) _).alloc (by simp; omega) _

theorem block_four (w2 : World) (o0 o1 o2 o3 : Obj) : 
   ((((w2.alloc o0).alloc o1).alloc o2).alloc o3).heap[w2.heap.size]? = some o0 ∧ ((((w2.alloc o0).alloc o1).alloc o2).alloc o3).heap[w2.heap.size + 1]? = some o1 ∧
   ((((w2.alloc o0).alloc o1).alloc o2).alloc o3).heap[w2.heap.size + 1 + 1]? = some o2 ∧ ((((w2.alloc o0).alloc o1).alloc o2).alloc o3).heap[w2.heap.size + 1 + 1 + 1]? = some o3 := by
  refine ⟨?_, ?_, ?_, ?_⟩
  · rw [Below.heap_alloc _ _ _ (by simp; omega), Below.heap_alloc _ _ _ (by simp; omega), Below.heap_alloc _ _ _ (by simp)]
    exact heap_alloc_new w2 _
  · rw [Below.heap_alloc _ _ _ (by simp), Below.heap_alloc _ _ _ (by simp)]
    have := heap_alloc_new (w2.alloc o0) o1
    simpa using this
  · rw [Below.heap_alloc _ _ _ (by simp)]
    have := heap_alloc_new ((w2.alloc o0).alloc o1) o2
    simpa using this
  · have := heap_alloc_new (((w2.alloc o0).alloc o1).alloc o2) o3
    simpa using this

theorem scene_made {w w1 w2 : World} {n : Nat} {z : Nat → Int} (hl : Lad w1 w1.heap.size (n + 1) (n + 1) z w2) (hb : Below w.heap.size w w1) (b : Bool) (t p q : Int) :
    ∃ W, (((w2.alloc (.cells #[.bool b, .slice (some ⟨w1.heap.size, 0, none⟩) (n + 1) (n + 1)] 59)).alloc (ord t p)).alloc (ord t q)).alloc (ord 1 p) = W ∧
      Scene W w2.heap.size w1.heap.size (w1.heap.size + 1 + n) n b t p q (z n) ∧ Below w.heap.size w W := by
  refine ⟨_, rfl, ?_, ?_⟩
  · obtain ⟨h0, h1, h2, h3⟩ := block_four w2 (.cells #[.bool b, .slice (some ⟨w1.heap.size, 0, none⟩) (n + 1) (n + 1)] 59) (ord t p) (ord t q) (ord 1 p)
    have hbel := below_four (Below.refl w2.heap.size w2) (Nat.le_refl _) (.cells #[.bool b, .slice (some ⟨w1.heap.size, 0, none⟩) (n + 1) (n + 1)] 59) (ord t p) (ord t q) (ord 1 p)
    have hs := hl.size
    refine ⟨cell_of_row _ _ 0 _ 59 (0, 0) h0, cell_of_row _ _ 1 _ 59 (0, 0) h0, ?_, ?_, cell_of_row _ _ 2 _ 39 (0, 0) h1, cell_of_row _ _ 3 _ 39 (0, 0) h1, cell_of_row _ _ 2 _ 39 (0, 0) h2, cell_of_row _ _ 3 _ 39 (0, 0) h2, cell_of_row _ _ 2 _ 39 (0, 0) h3⟩
    · rw [hbel.cell (by simp; omega)]
      have := hl.row.cell (i := n) (by omega)
      simpa using this
    · rw [hbel.cell (by simp; omega)]
      exact cell_of_row _ _ 0 _ 63 (0, 0) (hl.lev n (by omega))
  · exact below_four (hb.trans (hl.bel.mono hb.size)) (by have := hl.size; have := hb.size; omega) _ _ _ _

theorem more {b : Bool} {p q zn : Int} (hb : b = true → q ≤ p) (hs : b = false → p ≤ q) : 
    ∃ r r', (if b then decide (zn < p) else decide (p < zn)) = r ∧ (if b then decide (zn < q) else decide (q < zn)) = r' ∧ ((r = true ∧ r' = true) ∨ (r = true ∧ r' = false) ∨ (r = false ∧ r' = false)) := by
  refine ⟨_, _, rfl, rfl, ?_⟩
  cases b
  · have := hs rfl
    simp only [Bool.false_eq_true, if_false, decide_eq_true_eq, decide_eq_false_iff_not]
    omega
  · have := hb rfl
    simp only [if_true, decide_eq_true_eq, decide_eq_false_iff_not]
    omega

set_option maxRecDepth 100000 in
set_option maxHeartbeats 1000000 in
theorem law_some_false (a1 : Option Addr) (len n cap : Nat) (a2 a3 a4 : Int) (w : World) (h : len ≤ 65536) (hn : len = n + 1) (hq : a3 ≤ a4) (ht : (a2 == 1) = false)
    (hnone : a1 = none → len = 0 ∧ cap = 0) (z : Nat → Int) (hsrc : Src .i64 w a1 len z) :
    Calls Try.prog 3 #[.bool false, .slice a1 len cap, .int .u8 a2, .int .i64 a3, .int .i64 a4] w fun e w' => e = .returned (.bool true) ∧ Below w.heap.size w w' := by
  obtain ⟨r, r', hr, hr', hrr⟩ := more (b := false) (p := a3) (q := a4) (zn := z n) (fun h => by first | exact hq | cases h) (fun h => by first | exact hq | cases h)
  have HR : Hid ((if false then decide (z n < a3) else decide (a3 < z n)) = r ∧ (if false then decide (z n < a4) else decide (a4 < z n)) = r') := ⟨hr, hr'⟩
  have HN : Hid (a1 = none → len = 0 ∧ cap = 0) := hnone
  have HL : Hid (len = n + 1) := hn
  have hpos : (0 : Int) < (len : Int) := by omega
  clear hnone hr hr' hn
  rcases hrr with ⟨rfl, rfl⟩ | ⟨rfl, rfl⟩ | ⟨rfl, rfl⟩
  all_goals
    go_enter Try.func3, Try.ntmps3
    go_wp2_with (first 
      | (go_at_call 7; refine (bytes7 _ _ _ _ _ _ _ _ (by omega)).mono ?_; rintro e w' ⟨rfl, rfl⟩)
      | (go_at_call 8; refine (clone_any _ _ _ z _ (by omega) HN.out hsrc).mono ?_; rintro e w1 ⟨a', rfl, hsrc1, hb1⟩)
      | (go_at_call 9; refine (buildLadder _ _ _ z _ (by omega) hsrc1).mono ?_; rintro e w2 ⟨rfl, hlad⟩)
      | (go_at_call 10; refine (newLadder _ _ _ _ _).mono ?_; rintro e w3 ⟨rfl, rfl⟩))
    have hLen := HL.out
    obtain ⟨W, hW, hsc, hbW⟩ := scene_made (n := n) (z := z) (by rw [← hLen]; exact hlad) hb1 false a2 a3 a4
    rw [← hLen] at hW
    simp only [ord] at hW
    rw [hW]
    have c1 : ∀ k, (W.drewN k).cell? ⟨w2.heap.size, 1, none⟩ = some (.slice (some ⟨w1.heap.size, 0, none⟩) (n + 1) (n + 1)) := fun k => hsc.c1
    have HS : Hid (Scene W w2.heap.size w1.heap.size (w1.heap.size + 1 + n) n false a2 a3 a4 (z n)) := hsc
    clear hW hlad hsrc hsrc1 c1 hsc hLen
    refine (zz_limit w2.heap.size w1.heap.size (w1.heap.size + 1 + n) _ n (n + 1) false a2 a3 (z n) _ HS.out.c0 HS.out.c1 (by have := HL.out; omega) HS.out.c2 HS.out.c3 HS.out.t1 HS.out.p1 ht _ HR.out.1).mono ?_
    rintro e w4 ⟨rfl, k4, rfl⟩
    go_wp2_with fail
    refine (zz_limit w2.heap.size w1.heap.size (w1.heap.size + 1 + n) _ n (n + 1) false a2 a4 (z n) _ (HS.out.drewN k4).c0 (HS.out.drewN k4).c1 (by have := HL.out; omega) (HS.out.drewN k4).c2 (HS.out.drewN k4).c3 (HS.out.drewN k4).t2 (HS.out.drewN k4).p2 ht _ HR.out.2).mono ?_
    rintro e w5 ⟨rfl, k5, rfl⟩
    go_wp2_with fail
    refine (zz_market w2.heap.size w1.heap.size (w1.heap.size + 1 + n) _ n (n + 1) (W.drewN (k4 + k5)) (HS.out.drewN _).c1 (by have := HL.out; omega) (HS.out.drewN _).c2 (HS.out.drewN _).t3).mono ?_
    rintro e w6 ⟨rfl, k6, rfl⟩
    have hnq := neq_level
    go_wp2
    go_ret
    exact ⟨rfl, by simpa using below_drewN hbW (k4 + k5 + k6)⟩

set_option maxRecDepth 100000 in
set_option maxHeartbeats 1000000 in
theorem law_some_true (a1 : Option Addr) (len n cap : Nat) (a2 a3 a4 : Int) (w : World) (h : len ≤ 65536) (hn : len = n + 1) (hq : a4 ≤ a3) (ht : (a2 == 1) = false)
    (hnone : a1 = none → len = 0 ∧ cap = 0) (z : Nat → Int) (hsrc : Src .i64 w a1 len z) :
    Calls Try.prog 3 #[.bool true, .slice a1 len cap, .int .u8 a2, .int .i64 a3, .int .i64 a4] w fun e w' => e = .returned (.bool true) ∧ Below w.heap.size w w' := by
  obtain ⟨r, r', hr, hr', hrr⟩ := more (b := true) (p := a3) (q := a4) (zn := z n) (fun h => by first | exact hq | cases h) (fun h => by first | exact hq | cases h)
  have HR : Hid ((if true then decide (z n < a3) else decide (a3 < z n)) = r ∧ (if true then decide (z n < a4) else decide (a4 < z n)) = r') := ⟨hr, hr'⟩
  have HN : Hid (a1 = none → len = 0 ∧ cap = 0) := hnone
  have HL : Hid (len = n + 1) := hn
  have hpos : (0 : Int) < (len : Int) := by omega
  clear hnone hr hr' hn
  rcases hrr with ⟨rfl, rfl⟩ | ⟨rfl, rfl⟩ | ⟨rfl, rfl⟩
  all_goals
    go_enter Try.func3, Try.ntmps3
    go_wp2_with (first 
      | (go_at_call 7; refine (bytes7 _ _ _ _ _ _ _ _ (by omega)).mono ?_; rintro e w' ⟨rfl, rfl⟩)
      | (go_at_call 8; refine (clone_any _ _ _ z _ (by omega) HN.out hsrc).mono ?_; rintro e w1 ⟨a', rfl, hsrc1, hb1⟩)
      | (go_at_call 9; refine (buildLadder _ _ _ z _ (by omega) hsrc1).mono ?_; rintro e w2 ⟨rfl, hlad⟩)
      | (go_at_call 10; refine (newLadder _ _ _ _ _).mono ?_; rintro e w3 ⟨rfl, rfl⟩))
    have hLen := HL.out
    obtain ⟨W, hW, hsc, hbW⟩ := scene_made (n := n) (z := z) (by rw [← hLen]; exact hlad) hb1 true a2 a3 a4
    rw [← hLen] at hW
    simp only [ord] at hW
    rw [hW]
    have c1 : ∀ k, (W.drewN k).cell? ⟨w2.heap.size, 1, none⟩ = some (.slice (some ⟨w1.heap.size, 0, none⟩) (n + 1) (n + 1)) := fun k => hsc.c1
    have HS : Hid (Scene W w2.heap.size w1.heap.size (w1.heap.size + 1 + n) n true a2 a3 a4 (z n)) := hsc
    clear hW hlad hsrc hsrc1 c1 hsc hLen
    refine (zz_limit w2.heap.size w1.heap.size (w1.heap.size + 1 + n) _ n (n + 1) true a2 a3 (z n) _ HS.out.c0 HS.out.c1 (by have := HL.out; omega) HS.out.c2 HS.out.c3 HS.out.t1 HS.out.p1 ht _ HR.out.1).mono ?_
    rintro e w4 ⟨rfl, k4, rfl⟩
    go_wp2_with fail
    refine (zz_limit w2.heap.size w1.heap.size (w1.heap.size + 1 + n) _ n (n + 1) true a2 a4 (z n) _ (HS.out.drewN k4).c0 (HS.out.drewN k4).c1 (by have := HL.out; omega) (HS.out.drewN k4).c2 (HS.out.drewN k4).c3 (HS.out.drewN k4).t2 (HS.out.drewN k4).p2 ht _ HR.out.2).mono ?_
    rintro e w5 ⟨rfl, k5, rfl⟩
    go_wp2_with fail
    refine (zz_market w2.heap.size w1.heap.size (w1.heap.size + 1 + n) _ n (n + 1) (W.drewN (k4 + k5)) (HS.out.drewN _).c1 (by have := HL.out; omega) (HS.out.drewN _).c2 (HS.out.drewN _).t3).mono ?_
    rintro e w6 ⟨rfl, k6, rfl⟩
    have hnq := neq_level
    go_wp2
    go_ret
    exact ⟨rfl, by simpa using below_drewN hbW (k4 + k5 + k6)⟩

end Go.Proofs.Qxb6601723a
