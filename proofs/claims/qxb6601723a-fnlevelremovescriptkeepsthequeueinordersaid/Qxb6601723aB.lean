import Derived.Test.Qxb6601723aA
namespace Go.Proofs.Qxb6601723a
open Go.RowKit
set_option linter.unusedVariables false

theorem reached_none (L : Nat) (a : Option Addr) (c : Nat) (o : Option Addr) (w : World) (h1 : w.cell? ⟨L, 1, none⟩ = some (.slice a 0 c)) :
    Calls Try.prog 24 #[.pointer (some ⟨L, 0, none⟩), .pointer o] w fun e w' => e = .returned (.pointer none) ∧ ∃ k, w' = w.drewN k := by
  go_enter Try.func24, Try.ntmps24
  go_wp2_with (go_at_call 30; refine (best_none L true a c _ h1).mono ?_; rintro e w' ⟨rfl, rfl⟩)
  go_quiet (fail)
  go_wp2
  go_ret
  exact ⟨rfl, _, rfl⟩

theorem reached_market (L g V O : Nat) (n c : Nat) (w : World) (h1 : w.cell? ⟨L, 1, none⟩ = some (.slice (some ⟨g, 0, none⟩) (n + 1) c)) (hn : n ≤ 1048576)
    (hv : w.cell? ⟨g, n, none⟩ = some (.pointer (some ⟨V, 0, none⟩))) (ht : w.cell? ⟨O, 2, none⟩ = some (.int .u8 1)) :
    Calls Try.prog 24 #[.pointer (some ⟨L, 0, none⟩), .pointer (some ⟨O, 0, none⟩)] w fun e w' => e = .returned (.pointer (some ⟨V, 0, none⟩)) ∧ ∃ k, w' = w.drewN k := by
  go_enter Try.func24, Try.ntmps24
  go_wp2_with (go_at_call 30; refine (best_some L g n c _ _ h1 hn hv).mono ?_; rintro e w' ⟨rfl, k, rfl⟩)
  go_quiet (fail)
  go_wp2
  go_ret
  exact ⟨rfl, _, World.drewN_drewN ..⟩

theorem reached_limit (L g V O : Nat) (n c : Nat) (b : Bool) (t p q : Int) (w : World) (h0 : w.cell? ⟨L, 0, none⟩ = some (.bool b)) (h1 : w.cell? ⟨L, 1, none⟩ = some (.slice (some ⟨g, 0, none⟩) (n + 1) c)) (hn : n ≤ 1048576)
    (hv : w.cell? ⟨g, n, none⟩ = some (.pointer (some ⟨V, 0, none⟩))) (hq : w.cell? ⟨V, 0, none⟩ = some (.int .i64 q)) (ht : w.cell? ⟨O, 2, none⟩ = some (.int .u8 t)) (hp : w.cell? ⟨O, 3, none⟩ = some (.int .i64 p)) (ht1 : (t == 1) = false) (r : Bool) (hr : (if b then decide (q < p) else decide (p < q)) = r) :
    Calls Try.prog 24 #[.pointer (some ⟨L, 0, none⟩), .pointer (some ⟨O, 0, none⟩)] w fun e w' => e = .returned (.pointer (if r then none else some ⟨V, 0, none⟩)) ∧ ∃ k, w' = w.drewN k := by
  have ht2 : (t != 1) = true := by simp [bne, ht1]
  have hb : ∀ w2 : World, w2.cell? ⟨L, 0, none⟩ = some (.bool b) → Calls Try.prog 31 #[.pointer (some ⟨L, 0, none⟩), .int .i64 p, .int .i64 q] w2 fun e w' => e = .returned (.bool r) ∧ w' = w2 := fun w2 h => by
    rw [← hr]; exact better_any L b p q w2 h
  have HB : Hid (∀ w2 : World, w2.cell? ⟨L, 0, none⟩ = some (.bool b) → Calls Try.prog 31 #[.pointer (some ⟨L, 0, none⟩), .int .i64 p, .int .i64 q] w2 fun e w' => e = .returned (.bool r) ∧ w' = w2) := hb
  clear hb hr
  cases r
  all_goals
    go_enter Try.func24, Try.ntmps24
    go_wp2_with (go_at_call 30; refine (best_some L g n c _ _ h1 hn hv).mono ?_; rintro e w1 ⟨rfl, hw1⟩)
    have g0 : w1.cell? ⟨L, 0, none⟩ = some (.bool b) := by obtain ⟨k, rfl⟩ := hw1; exact h0
    have g1 : w1.cell? ⟨V, 0, none⟩ = some (.int .i64 q) := by obtain ⟨k, rfl⟩ := hw1; exact hq
    have g2 : w1.cell? ⟨O, 2, none⟩ = some (.int .u8 t) := by obtain ⟨k, rfl⟩ := hw1; exact ht
    have g3 : w1.cell? ⟨O, 3, none⟩ = some (.int .i64 p) := by obtain ⟨k, rfl⟩ := hw1; exact hp
    have HW : Hid (∃ k, w1 = w.drewN k) := hw1
    clear hw1 h0 h1 hv hq ht hp
    go_quiet ((go_at_call 31; refine Calls.quiet_of_same (HB.out _ ?_); exact g0))
    go_wp2
    go_ret
    obtain ⟨k, rfl⟩ := HW.out
    exact ⟨rfl, _, World.drewN_drewN ..⟩

end Go.Proofs.Qxb6601723a
