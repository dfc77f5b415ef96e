import Derived.Test.Qxb6601723aProg
import Derived.WalkKit
import Derived.ProofKit
import Derived.WalkSpells
import Derived.WalkLawsBesides
import Derived.Deep.OwnRows
import Derived.Deep.LoopGhost
import Derived.Lib.SliceRun
import Derived.Deep.QuietTactic
import Derived.BigQuiet
import Derived.Deep.RegionWith
namespace Go.Proofs.Qxb6601723a
open Go.RowKit
set_option linter.unusedVariables false

theorem info2 : (Try.prog.info? 2).map (fun i => (i.zero, i.size, i.bytes)) = some (some (.int .i64 0), 1, 8) := by kernel_rfl

theorem clone_nil (w : World) : Calls Try.prog 8 #[.slice none 0 0] w fun e w' => e = .returned (.slice none 0 0) ∧ w' = w := by
  have hnil := fun w a n c => Lib.run_eql_slice_nil (P := Try.prog) w 22 2 a n c 0 0 Try.underlying22
  go_enter Try.func8, Try.ntmps8
  go_wp2
  go_ret
  exact ⟨rfl, rfl⟩

set_option maxHeartbeats 400000 in
theorem clone_pos (b off len cap : Nat) (z : Nat → Int) (w : World) (hl : len ≤ 1048576) (hc : ∀ i, i < len → w.cell? ⟨b, off + i, none⟩ = some (.int .i64 (z i))) :
   Calls Try.prog 8 #[.slice (some ⟨b, off, none⟩) len cap] w fun e w' => e = .returned (.slice (some ⟨w.heap.size, 0, none⟩) len len) ∧
     w'.rowIs w.heap.size 2 len (fun i => .int .i64 (z i)) ∧ Below w.heap.size w w' ∧ w'.heap.size = w.heap.size + 1 := by
  have hnil := fun w a n c => Lib.run_eql_slice_nil (P := Try.prog) w 22 2 a n c 0 0 Try.underlying22
  have hmk := run_make_row' (P := Try.prog) 22 2 (.int .i64 0) 8 Try.underlying22 info2 rfl .i64 .i64 len (by omega) (by omega)
  go_enter Try.func8, Try.ntmps8
  go_wp2
  clear hmk hnil
  go_loopg [4] len (fun k i wr => ∃ j : Nat, j + k = len ∧ i = .int .i64 j ∧ wr.rowIs w.heap.size 2 len (fun t => .int .i64 (if t < j then z t else 0)) ∧ Below w.heap.size w wr ∧ wr.heap.size = w.heap.size + 1)
  case atStart => exact ⟨0, by omega, rfl, (World.rowIs_made w _ len 2).congr (fun i hi => by simp), (Below.refl _ _).alloc (Nat.le_refl _) _, by simp⟩
  case round =>
    obtain ⟨j, hj, rfl, hrow, hbel, hsz⟩ := hrel
    by_cases hlt : j < len
    · have hcx : wr.cell? ⟨b, off + j, none⟩ = some (.int .i64 (z j)) := by
        have h := hc j hlt
        rw [hbel.cell (World.block_lt_of_cell? w _ h)]; exact h
      have hf := hrow.frozen j
      have hcj := hrow.cell hlt
      simp at hcj
      go_wp2
      go_roundg (gk - 1)
      case measure => omega
      case rel =>
        refine ⟨j + 1, by omega, by go_num, (hrow.set j _).congr ?_, hbel.setCell (Nat.le_refl _) _, by simp [World.setCell, hsz]⟩
        intro i hi
        split
        · subst_vars; simp
        · congr 1; split <;> split <;> first | rfl | omega
    · go_wp2
      go_ret
      refine ⟨rfl, hrow.congr ?_, hbel, hsz⟩
      intro i hi
      simp; omega

/-! ### levels and ladders -/
theorem newLevel (p : Int) (h t : Option Addr) (w : World) :
    Calls Try.prog 14 #[.int .i64 p, .pointer h, .pointer t] w fun e w' => e = .returned (.pointer (some ⟨w.heap.size, 0, none⟩)) ∧ w' = w.alloc (.cells #[.int .i64 p, .pointer h, .pointer t] 63) := by
  go_enter Try.func14, Try.ntmps14
  go_wp2
  go_ret
  exact ⟨rfl, rfl⟩

theorem newLadder (b : Bool) (a : Option Addr) (n c : Nat) (w : World) :
    Calls Try.prog 10 #[.bool b, .slice a n c] w fun e w' => e = .returned (.pointer (some ⟨w.heap.size, 0, none⟩)) ∧ w' = w.alloc (.cells #[.bool b, .slice a n c] 59) := by
  go_enter Try.func10, Try.ntmps10
  go_wp2
  go_ret
  exact ⟨rfl, rfl⟩

theorem best_none (L : Nat) (b : Bool) (a : Option Addr) (c : Nat) (w : World) (h1 : w.cell? ⟨L, 1, none⟩ = some (.slice a 0 c)) :
    Calls Try.prog 30 #[.pointer (some ⟨L, 0, none⟩)] w fun e w' => e = .returned (.pointer none) ∧ w' = w := by
  go_enter Try.func30, Try.ntmps30
  go_wp2
  go_ret
  exact ⟨rfl, rfl⟩

theorem best_some (L g : Nat) (n c : Nat) (v : Option Addr) (w : World) (h1 : w.cell? ⟨L, 1, none⟩ = some (.slice (some ⟨g, 0, none⟩) (n + 1) c)) (hn : n ≤ 1048576)
    (hv : w.cell? ⟨g, n, none⟩ = some (.pointer v)) :
    Calls Try.prog 30 #[.pointer (some ⟨L, 0, none⟩)] w fun e w' => e = .returned (.pointer v) ∧ ∃ k, w' = w.drewN k := by
  have e1 : ((n : Int) + 1 == 0) = false := by simp; omega
  go_enter Try.func30, Try.ntmps30
  go_wp2
  go_quiet (fail)
  go_wp2
  go_ret
  exact ⟨rfl, _, rfl⟩

theorem better_any (L : Nat) (b : Bool) (p q : Int) (w : World) (h0 : w.cell? ⟨L, 0, none⟩ = some (.bool b)) :
    Calls Try.prog 31 #[.pointer (some ⟨L, 0, none⟩), .int .i64 p, .int .i64 q] w fun e w' => e = .returned (.bool (if b then decide (q < p) else decide (p < q))) ∧ w' = w := by
  cases b <;> 
  · go_enter Try.func31, Try.ntmps31
    go_wp2
    go_ret
    exact ⟨rfl, rfl⟩

end Go.Proofs.Qxb6601723a
