import Derived.Test.Qxb6601723aC
import Derived.RegionTactic
import Derived.ChangeAlike
namespace Go.Proofs.Qxb6601723a
open Go.RowKit
set_option linter.unusedVariables false

/-! ### 'remove' on bare cells: four ways -/

theorem remove_only (V O : Nat) (w : World) (hOV : O ≠ V) (h1 : w.cell? ⟨O, 15, none⟩ = some (.pointer none)) (h2 : w.cell? ⟨O, 16, none⟩ = some (.pointer none))
    (u1 u2 : Value) (c1 : w.cell? ⟨V, 1, none⟩ = some u1) (c2 : w.cell? ⟨V, 2, none⟩ = some u2)
    (fV : ∀ j, w.frozen? ⟨V, j, none⟩ = false) (fO : ∀ j, w.frozen? ⟨O, j, none⟩ = false) :
    Calls Try.prog 26 #[.pointer (some ⟨V, 0, none⟩), .pointer (some ⟨O, 0, none⟩)] w fun e w' => e = .returned (.tuple #[]) ∧
      w'.Alike ((((w.setCell ⟨V, 1, none⟩ (.pointer none)).setCell ⟨V, 2, none⟩ (.pointer none)).setCell ⟨O, 15, none⟩ (.pointer none)).setCell ⟨O, 16, none⟩ (.pointer none)) ∧ w'.tape = w.tape := by
  go_enter Try.func26, Try.ntmps26
  go_wp2
  go_end0
  exact ⟨rfl, ⟨rfl, rfl, rfl⟩, rfl⟩

theorem remove_first (V O N : Nat) (w : World) (hOV : O ≠ V) (hNV : N ≠ V) (hON : O ≠ N) (h1 : w.cell? ⟨O, 15, none⟩ = some (.pointer none)) (h2 : w.cell? ⟨O, 16, none⟩ = some (.pointer (some ⟨N, 0, none⟩)))
    (u1 u2 : Value) (c1 : w.cell? ⟨V, 1, none⟩ = some u1) (c2 : w.cell? ⟨N, 15, none⟩ = some u2)
    (fV : ∀ j, w.frozen? ⟨V, j, none⟩ = false) (fO : ∀ j, w.frozen? ⟨O, j, none⟩ = false) (fN : ∀ j, w.frozen? ⟨N, j, none⟩ = false) :
    Calls Try.prog 26 #[.pointer (some ⟨V, 0, none⟩), .pointer (some ⟨O, 0, none⟩)] w fun e w' => e = .returned (.tuple #[]) ∧
      w'.Alike ((((w.setCell ⟨V, 1, none⟩ (.pointer (some ⟨N, 0, none⟩))).setCell ⟨N, 15, none⟩ (.pointer none)).setCell ⟨O, 15, none⟩ (.pointer none)).setCell ⟨O, 16, none⟩ (.pointer none)) ∧ w'.tape = w.tape := by
  go_enter Try.func26, Try.ntmps26
  go_wp2
  go_region
  all_goals (go_wp2; go_end0; exact ⟨rfl, ⟨rfl, rfl, rfl⟩, rfl⟩)

theorem remove_last (V O N : Nat) (w : World) (hOV : O ≠ V) (hNV : N ≠ V) (hON : O ≠ N) (h1 : w.cell? ⟨O, 15, none⟩ = some (.pointer (some ⟨N, 0, none⟩))) (h2 : w.cell? ⟨O, 16, none⟩ = some (.pointer none))
    (u1 u2 : Value) (c1 : w.cell? ⟨V, 2, none⟩ = some u1) (c2 : w.cell? ⟨N, 16, none⟩ = some u2)
    (fV : ∀ j, w.frozen? ⟨V, j, none⟩ = false) (fO : ∀ j, w.frozen? ⟨O, j, none⟩ = false) (fN : ∀ j, w.frozen? ⟨N, j, none⟩ = false) :
    Calls Try.prog 26 #[.pointer (some ⟨V, 0, none⟩), .pointer (some ⟨O, 0, none⟩)] w fun e w' => e = .returned (.tuple #[]) ∧
      w'.Alike ((((w.setCell ⟨N, 16, none⟩ (.pointer none)).setCell ⟨V, 2, none⟩ (.pointer (some ⟨N, 0, none⟩))).setCell ⟨O, 15, none⟩ (.pointer none)).setCell ⟨O, 16, none⟩ (.pointer none)) ∧ w'.tape = w.tape := by
  go_enter Try.func26, Try.ntmps26
  go_wp2
  go_region
  all_goals (go_wp2; go_end0; exact ⟨rfl, ⟨rfl, rfl, rfl⟩, rfl⟩)

set_option maxHeartbeats 400000 in
theorem remove_mid (V O N M : Nat) (w : World) (hOV : O ≠ V) (hNV : N ≠ V) (hON : O ≠ N) (hOM : O ≠ M) (hMV : M ≠ V) (hNM : N ≠ M) (h1 : w.cell? ⟨O, 15, none⟩ = some (.pointer (some ⟨N, 0, none⟩))) (h2 : w.cell? ⟨O, 16, none⟩ = some (.pointer (some ⟨M, 0, none⟩)))
    (u1 u2 : Value) (c1 : w.cell? ⟨M, 15, none⟩ = some u1) (c2 : w.cell? ⟨N, 16, none⟩ = some u2)
    (fM : ∀ j, w.frozen? ⟨M, j, none⟩ = false) (fO : ∀ j, w.frozen? ⟨O, j, none⟩ = false) (fN : ∀ j, w.frozen? ⟨N, j, none⟩ = false) :
    Calls Try.prog 26 #[.pointer (some ⟨V, 0, none⟩), .pointer (some ⟨O, 0, none⟩)] w fun e w' => e = .returned (.tuple #[]) ∧
      w'.Alike ((((w.setCell ⟨N, 16, none⟩ (.pointer (some ⟨M, 0, none⟩))).setCell ⟨M, 15, none⟩ (.pointer (some ⟨N, 0, none⟩))).setCell ⟨O, 15, none⟩ (.pointer none)).setCell ⟨O, 16, none⟩ (.pointer none)) ∧ w'.tape = w.tape := by
  go_enter Try.func26, Try.ntmps26
  go_wp2
  go_region
  all_goals (go_wp2; go_region)
  all_goals (go_wp2; go_end0; exact ⟨rfl, ⟨rfl, rfl, rfl⟩, rfl⟩)

end Go.Proofs.Qxb6601723a
