import Derived.Test.Qxb6601723aM
namespace Go.Proofs.Qxb6601723a
open Go.RowKit
set_option linter.unusedVariables false

theorem law5_no (a0 : Option Addr) (len0 cap0 : Nat) (a1 : Option Addr) (len1 cap1 : Nat) (w : World) (h0 : len0 ≤ maxLen) (h1 : len1 ≤ maxLen) (h : 1048576 < len0 + len1) :
    Calls Try.prog 5 #[.slice a0 len0 cap0, .slice a1 len1 cap1] w fun e w' => e = .returned (.bool true) ∧ Below w.heap.size w w' := by
  go_enter Try.func5, Try.ntmps5
  go_wp2_with (go_at_call 20; refine (bytes20_any _ _ _ _ _ _ _ h0 h1 h).mono ?_; rintro e w' ⟨rfl, rfl⟩)
  go_ret
  exact ⟨rfl, Below.refl _ _⟩
theorem law5_long0 (a0 : Option Addr) (len0 cap0 : Nat) (a1 : Option Addr) (len1 cap1 : Nat) (w : World) (h : len0 + len1 ≤ 1048576) (h2 : 4096 < len0) :
    Calls Try.prog 5 #[.slice a0 len0 cap0, .slice a1 len1 cap1] w fun e w' => e = .returned (.bool true) ∧ Below w.heap.size w w' := by
  go_enter Try.func5, Try.ntmps5
  go_wp2_with (go_at_call 20; refine (bytes20 _ _ _ _ _ _ _ h).mono ?_; rintro e w' ⟨rfl, rfl⟩)
  go_ret
  exact ⟨rfl, Below.refl _ _⟩
theorem law5_long1 (a0 : Option Addr) (len0 cap0 : Nat) (a1 : Option Addr) (len1 cap1 : Nat) (w : World) (h : len0 + len1 ≤ 1048576) (h2 : len0 ≤ 4096) (h3 : 4096 < len1) :
    Calls Try.prog 5 #[.slice a0 len0 cap0, .slice a1 len1 cap1] w fun e w' => e = .returned (.bool true) ∧ Below w.heap.size w w' := by
  go_enter Try.func5, Try.ntmps5
  go_wp2_with (go_at_call 20; refine (bytes20 _ _ _ _ _ _ _ h).mono ?_; rintro e w' ⟨rfl, rfl⟩)
  go_ret
  exact ⟨rfl, Below.refl _ _⟩

theorem law5_any (a0 : Option Addr) (len0 cap0 : Nat) (a1 : Option Addr) (len1 cap1 : Nat) (w : World) (m0 : len0 ≤ maxLen) (m1 : len1 ≤ maxLen)
    (hnone0 : a0 = none → len0 = 0 ∧ cap0 = 0) (z : Nat → Int) (hsrc0 : Src .i64 w a0 len0 z)
    (hnone1 : a1 = none → len1 = 0 ∧ cap1 = 0) (y : Nat → Int) (hsrc1 : Src .i64 w a1 len1 y) :
    Calls Try.prog 5 #[.slice a0 len0 cap0, .slice a1 len1 cap1] w fun e w' => e = .returned (.bool true) ∧ Below w.heap.size w w' := by
  by_cases h1 : len0 + len1 ≤ 1048576
  · by_cases h2 : len0 ≤ 4096
    · by_cases h3 : len1 ≤ 4096
      · exact law5 a0 len0 cap0 a1 len1 cap1 w h2 h3 hnone0 z hsrc0 hnone1 y hsrc1
      · exact law5_long1 a0 len0 cap0 a1 len1 cap1 w h1 h2 (by omega)
    · exact law5_long0 a0 len0 cap0 a1 len1 cap1 w h1 (by omega)
  · exact law5_no a0 len0 cap0 a1 len1 cap1 w m0 m1 (by omega)
end Go.Proofs.Qxb6601723a
