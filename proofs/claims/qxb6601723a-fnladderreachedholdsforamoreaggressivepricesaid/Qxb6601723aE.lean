import Derived.Test.Qxb6601723aD
namespace Go.Proofs.Qxb6601723a
open Go.RowKit
set_option linter.unusedVariables false

theorem cell_ladder (w2 : World) (b : Bool) (g : Nat) (n : Nat) (o1 o2 o3 : Obj) : ((((w2.alloc (.cells #[.bool b, .slice (some ⟨g, 0, none⟩) n n] 59)).alloc o1).alloc o2).alloc o3).cell? ⟨w2.heap.size, 1, none⟩ = some (.slice (some ⟨g, 0, none⟩) n n) :=
  cell_of_row _ _ 1 _ 59 (0, 0) (block_four w2 _ o1 o2 o3).1

theorem cell_ladder_k (w2 : World) (b : Bool) (g : Nat) (n : Nat) (o1 o2 o3 : Obj) (k : Nat) : (((((w2.alloc (.cells #[.bool b, .slice (some ⟨g, 0, none⟩) n n] 59)).alloc o1).alloc o2).alloc o3).drewN k).cell? ⟨w2.heap.size, 1, none⟩ = some (.slice (some ⟨g, 0, none⟩) n n) :=
  cell_ladder w2 b g n o1 o2 o3

set_option maxRecDepth 100000 in
set_option maxHeartbeats 1000000 in
/-- No level at all. -/
theorem law_empty (a0 : Bool) (a1 : Option Addr) (len cap : Nat) (a2 a3 a4 : Int) (w : World) (h : len ≤ 65536) (hn : len = 0) (hb : a0 = true → a4 ≤ a3) (hs : a0 = false → a3 ≤ a4) (ht : (a2 == 1) = false)
    (hnone : a1 = none → len = 0 ∧ cap = 0) (z : Nat → Int) (hsrc : Src .i64 w a1 len z) :
    Calls Try.prog 3 #[.bool a0, .slice a1 len cap, .int .u8 a2, .int .i64 a3, .int .i64 a4] w fun e w' => e = .returned (.bool true) ∧ Below w.heap.size w w' := by
  have HN : Hid (a1 = none → len = 0 ∧ cap = 0) := hnone
  have HT : Hid (a0 = true → a4 ≤ a3) := hb
  have HF : Hid (a0 = false → a3 ≤ a4) := hs
  have HL : Hid (len = 0) := hn
  clear hnone hb hs hn
  cases a0
  all_goals
    first | (have hq := HF.out rfl) | (have hq := HT.out rfl)
    clear HF HT
    go_enter Try.func3, Try.ntmps3
    go_wp2_with (first 
      | (go_at_call 7; refine (bytes7 _ _ _ _ _ _ _ _ (by omega)).mono ?_; rintro e w' ⟨rfl, rfl⟩)
      | (go_at_call 8; refine (clone_any _ _ _ z _ (by omega) HN.out hsrc).mono ?_; rintro e w1 ⟨a', rfl, hsrc1, hb1⟩)
      | (go_at_call 9; refine (buildLadder _ _ _ z _ (by omega) hsrc1).mono ?_; rintro e w2 ⟨rfl, hlad⟩)
      | (go_at_call 10; refine (newLadder _ _ _ _ _).mono ?_; rintro e w3 ⟨rfl, rfl⟩))
    have hL := HL.out
    subst hL
    have hB : Below w'.heap.size w' w2 := hb1.trans (hlad.bel.mono hb1.size)
    have hsz := hB.size
    clear hlad hsrc hsrc1 HN HL
    refine (zz_none _ _ _ _ _ (cell_ladder w2 _ _ _ _ _ _)).mono ?_
    rintro e w4 ⟨rfl, k4, rfl⟩
    go_wp2_with fail
    refine (zz_none _ _ _ _ _ (cell_ladder_k w2 _ _ _ _ _ _ _)).mono ?_
    rintro e w5 ⟨rfl, k5, rfl⟩
    go_wp2_with fail
    refine (zz_none _ _ _ _ _ (cell_ladder_k w2 _ _ _ _ _ _ _)).mono ?_
    rintro e w6 ⟨rfl, k6, rfl⟩
    go_wp2
    go_ret
    exact ⟨rfl, below_drewN (below_four hB hsz _ _ _ _) _⟩

theorem law_no (a0 : Bool) (a1 : Option Addr) (len cap : Nat) (a2 a3 a4 : Int) (w : World) (h : 1048576 < len) :
    Calls Try.prog 3 #[.bool a0, .slice a1 len cap, .int .u8 a2, .int .i64 a3, .int .i64 a4] w fun e w' => e = .returned (.bool true) ∧ Below w.heap.size w w' := by
  go_enter Try.func3, Try.ntmps3
  go_wp2_with (go_at_call 7; refine (bytes7_no _ _ _ _ _ _ _ _ h).mono ?_; rintro e w' ⟨rfl, rfl⟩)
  go_ret
  exact ⟨rfl, Below.refl _ _⟩

theorem law_long (a0 : Bool) (a1 : Option Addr) (len cap : Nat) (a2 a3 a4 : Int) (w : World) (h : len ≤ 1048576) (h2 : 65536 < len) :
    Calls Try.prog 3 #[.bool a0, .slice a1 len cap, .int .u8 a2, .int .i64 a3, .int .i64 a4] w fun e w' => e = .returned (.bool true) ∧ Below w.heap.size w w' := by
  go_enter Try.func3, Try.ntmps3
  go_wp2_with (go_at_call 7; refine (bytes7 _ _ _ _ _ _ _ _ h).mono ?_; rintro e w' ⟨rfl, rfl⟩)
  go_ret
  exact ⟨rfl, Below.refl _ _⟩

theorem law_market (a0 : Bool) (a1 : Option Addr) (len cap : Nat) (a2 a3 a4 : Int) (w : World) (h : len ≤ 65536) (ht : (a2 == 1) = true) :
    Calls Try.prog 3 #[.bool a0, .slice a1 len cap, .int .u8 a2, .int .i64 a3, .int .i64 a4] w fun e w' => e = .returned (.bool true) ∧ Below w.heap.size w w' := by
  go_enter Try.func3, Try.ntmps3
  go_wp2_with (go_at_call 7; refine (bytes7 _ _ _ _ _ _ _ _ (by omega)).mono ?_; rintro e w' ⟨rfl, rfl⟩)
  go_ret
  exact ⟨rfl, Below.refl _ _⟩

theorem law_less_true (a1 : Option Addr) (len cap : Nat) (a2 a3 a4 : Int) (w : World) (h : len ≤ 65536) (ht : (a2 == 1) = false) (hq : a3 < a4) :
    Calls Try.prog 3 #[.bool true, .slice a1 len cap, .int .u8 a2, .int .i64 a3, .int .i64 a4] w fun e w' => e = .returned (.bool true) ∧ Below w.heap.size w w' := by
  go_enter Try.func3, Try.ntmps3
  go_wp2_with (go_at_call 7; refine (bytes7 _ _ _ _ _ _ _ _ (by omega)).mono ?_; rintro e w' ⟨rfl, rfl⟩)
  go_ret
  exact ⟨rfl, Below.refl _ _⟩

theorem law_less_false (a1 : Option Addr) (len cap : Nat) (a2 a3 a4 : Int) (w : World) (h : len ≤ 65536) (ht : (a2 == 1) = false) (hq : a4 < a3) :
    Calls Try.prog 3 #[.bool false, .slice a1 len cap, .int .u8 a2, .int .i64 a3, .int .i64 a4] w fun e w' => e = .returned (.bool true) ∧ Below w.heap.size w w' := by
  go_enter Try.func3, Try.ntmps3
  go_wp2_with (go_at_call 7; refine (bytes7 _ _ _ _ _ _ _ _ (by omega)).mono ?_; rintro e w' ⟨rfl, rfl⟩)
  go_ret
  exact ⟨rfl, Below.refl _ _⟩

theorem law_any (a0 : Bool) (a1 : Option Addr) (len cap : Nat) (a2 a3 a4 : Int) (w : World) (hnone : a1 = none → len = 0 ∧ cap = 0) (z : Nat → Int) (hsrc : Src .i64 w a1 len z) :
    Calls Try.prog 3 #[.bool a0, .slice a1 len cap, .int .u8 a2, .int .i64 a3, .int .i64 a4] w fun e w' => e = .returned (.bool true) ∧ Below w.heap.size w w' := by
  by_cases h1 : len ≤ 1048576
  · by_cases h2 : len ≤ 65536
    · by_cases ht : (a2 == 1) = true
      · exact law_market a0 a1 len cap a2 a3 a4 w h2 ht
      · have ht' : (a2 == 1) = false := by simpa using ht
        cases a0
        · by_cases hq : a4 < a3
          · exact law_less_false a1 len cap a2 a3 a4 w h2 ht' hq
          · cases len with
            | zero => exact law_empty false a1 0 cap a2 a3 a4 w h2 rfl (fun h => by cases h) (fun _ => by omega) ht' hnone z hsrc
            | succ n => exact law_some_false a1 (n + 1) n cap a2 a3 a4 w h2 rfl (by omega) ht' hnone z hsrc
        · by_cases hq : a3 < a4
          · exact law_less_true a1 len cap a2 a3 a4 w h2 ht' hq
          · cases len with
            | zero => exact law_empty true a1 0 cap a2 a3 a4 w h2 rfl (fun _ => by omega) (fun h => by cases h) ht' hnone z hsrc
            | succ n => exact law_some_true a1 (n + 1) n cap a2 a3 a4 w h2 rfl (by omega) ht' hnone z hsrc
    · exact law_long a0 a1 len cap a2 a3 a4 w h1 (by omega)
  · exact law_no a0 a1 len cap a2 a3 a4 w (by omega)
end Go.Proofs.Qxb6601723a
