import Derived.Test.Qxb6601723aB
namespace Go.Proofs.Qxb6601723a
open Go.RowKit
set_option linter.unusedVariables false

/-- A slice of integers that can be read: element i is 'z i'. -/
def Src (k : IntKind) (w : World) (a : Option Addr) (n : Nat) (z : Nat → Int) : Prop :=
  ∀ i, i < n → ∃ b off, a = some ⟨b, off, none⟩ ∧ w.cell? ⟨b, off + i, none⟩ = some (.int k (z i))

theorem Src.below {k : IntKind} {w w' : World} {a : Option Addr} {n : Nat} {z : Nat → Int} (h : Src k w a n z) (hb : Below w.heap.size w w') : Src k w' a n z := by
  intro i hi
  obtain ⟨b, off, ha, hc⟩ := h i hi
  exact ⟨b, off, ha, by rw [hb.cell (World.block_lt_of_cell? w _ hc)]; exact hc⟩

theorem Src.row {k : IntKind} {w : World} {g t n : Nat} {z : Nat → Int} (h : w.rowIs g t n (fun i => .int k (z i))) : Src k w (some ⟨g, 0, none⟩) n z := by
  intro i hi
  exact ⟨g, 0, rfl, by simpa using h.cell hi⟩

theorem clone_zero (x : Addr) (cap : Nat) (w : World) :
   Calls Try.prog 8 #[.slice (some x) 0 cap] w fun e w' => e = .returned (.slice (some ⟨w.heap.size, 0, none⟩) 0 0) ∧ Below w.heap.size w w' := by
  have hnil := fun w a n c => Lib.run_eql_slice_nil (P := Try.prog) w 22 2 a n c 0 0 Try.underlying22
  have hmk := run_make_row' (P := Try.prog) 22 2 (.int .i64 0) 8 Try.underlying22 info2 rfl .i64 .i64 0 (by omega) (by omega)
  simp only [Int.ofNat_zero] at hmk
  go_enter Try.func8, Try.ntmps8
  go_wp2
  clear hmk hnil
  go_loopg [4] 0 (fun k i wr => i = .int .i64 0 ∧ Below w.heap.size w wr)
  case atStart => exact ⟨rfl, (Below.refl _ _).alloc (Nat.le_refl _) _⟩
  case round =>
    obtain ⟨rfl, hbel⟩ := hrel
    go_wp2
    go_ret
    exact ⟨rfl, hbel⟩

theorem clone_any (a : Option Addr) (n cap : Nat) (z : Nat → Int) (w : World) (hl : n ≤ 1048576) (hnone : a = none → n = 0 ∧ cap = 0) (hs : Src .i64 w a n z) :
    Calls Try.prog 8 #[.slice a n cap] w fun e w' => ∃ a', e = .returned (.slice a' n n) ∧ Src .i64 w' a' n z ∧ Below w.heap.size w w' := by
  cases a with
  | none =>
    obtain ⟨rfl, rfl⟩ := hnone rfl
    exact (clone_nil w).mono fun e w' ⟨he, hw⟩ => ⟨none, he, fun i hi => absurd hi (Nat.not_lt_zero i), by rw [hw]; exact Below.refl _ _⟩
  | some x =>
    by_cases h0 : n = 0
    · subst h0
      exact (clone_zero x cap w).mono fun e w' ⟨he, hw⟩ => ⟨_, he, fun i hi => absurd hi (Nat.not_lt_zero i), hw⟩
    · obtain ⟨b, off, hx, hc⟩ := hs 0 (by omega)
      obtain rfl : x = ⟨b, off, none⟩ := by simpa using hx
      refine (clone_pos b off n cap z w hl ?_).mono fun e w' ⟨he, hr, hb, _⟩ => ⟨_, he, Src.row hr, hb⟩
      intro i hi
      obtain ⟨b', off', hx', hc'⟩ := hs i hi
      simp at hx'
      obtain ⟨rfl, rfl⟩ := hx'
      exact hc'

theorem info40 : (Try.prog.info? 40).map (fun i => (i.zero, i.size, i.bytes)) = some (some (.pointer none), 1, 8) := by kernel_rfl

/-- The levels that 'buildLadderB1' has laid so far. -/
structure Lad (w : World) (B n j : Nat) (z : Nat → Int) (wr : World) : Prop where
  row : wr.rowIs B 40 n (fun t => .pointer (if t < j then some ⟨B + 1 + t, 0, none⟩ else none))
  lev : ∀ t, t < j → wr.heap[B + 1 + t]? = some (.cells #[.int .i64 (z t), .pointer none, .pointer none] 63 (0, 0))
  size : wr.heap.size = B + 1 + j
  bel : Below B w wr

theorem Lad.start (w : World) (n : Nat) (z : Nat → Int) : Lad w w.heap.size n 0 z (w.alloc (.cells (madeCells #[.pointer none] n) 40)) :=
  ⟨(World.rowIs_made w _ n 40).congr (fun i hi => by simp), fun t ht => absurd ht (Nat.not_lt_zero t), by simp, (Below.refl _ _).alloc (Nat.le_refl _) _⟩

theorem Lad.step {w wr : World} {B n j : Nat} {z : Nat → Int} (h : Lad w B n j z wr) (hj : j < n) (hB : B ≤ wr.heap.size) :
    Lad w B n (j + 1) z ((wr.alloc (.cells #[.int .i64 (z j), .pointer none, .pointer none] 63)).setCell ⟨B, j, none⟩ (.pointer (some ⟨wr.heap.size, 0, none⟩))) := by
  refine ⟨?_, ?_, ?_, (h.bel.alloc hB _).setCell (Nat.le_refl _) _⟩
  · refine ((h.row.alloc _).set j _).congr fun t ht => ?_
    rw [h.size]
    split
    · subst_vars; simp
    · congr 1; split <;> split <;> first | rfl | omega
  · intro t ht
    rw [Below.heap_setCell _ _ _ _ (by simp; omega)]
    by_cases e : t = j
    · subst e
      rw [← h.size]
      exact heap_alloc_new wr _
    · rw [Below.heap_alloc _ _ _ (by rw [h.size]; omega)]
      exact h.lev t (by omega)
  · simp [World.setCell, h.size]; omega

set_option maxHeartbeats 400000 in
theorem buildLadder (a : Option Addr) (n cap : Nat) (z : Nat → Int) (w : World) (hl : n ≤ 1048576) (hs : Src .i64 w a n z) :
    Calls Try.prog 9 #[.slice a n cap] w fun e w' => e = .returned (.slice (some ⟨w.heap.size, 0, none⟩) n n) ∧ Lad w w.heap.size n n z w' := by
  have hmk := run_make_row' (P := Try.prog) 26 40 (.pointer none) 8 Try.underlying26 info40 rfl .i64 .i64 n (by omega) (by omega)
  go_enter Try.func9, Try.ntmps9
  go_wp2
  clear hmk
  go_loopg [5] n (fun k i wr => ∃ j : Nat, j + k = n ∧ i = .int .i64 j ∧ Lad w w.heap.size n j z wr)
  case atStart => exact ⟨0, by omega, rfl, Lad.start w n z⟩
  case round =>
    obtain ⟨j, hj, rfl, hlad⟩ := hrel
    by_cases hlt : j < n
    · obtain ⟨b, off, rfl, hc⟩ := hs j hlt
      have hcx : wr.cell? ⟨b, off + j, none⟩ = some (.int .i64 (z j)) := by
        rw [hlad.bel.cell (World.block_lt_of_cell? w _ hc)]; exact hc
      have hf : ∀ o, (wr.alloc o).frozen? ⟨w.heap.size, j, none⟩ = false := fun o => (hlad.row.alloc o).frozen j
      have hcj : ∀ o, ∃ v, (wr.alloc o).cell? ⟨w.heap.size, j, none⟩ = some v := fun o => ⟨_, (hlad.row.alloc o).cell hlt⟩
      obtain ⟨v, hv⟩ := hcj (.cells #[.int .i64 (z j), .pointer none, .pointer none] 63)
      have hst := hlad.step hlt (by have := hlad.size; omega)
      have HS : Hid (Lad w w.heap.size n (j + 1) z ((wr.alloc (.cells #[.int .i64 (z j), .pointer none, .pointer none] 63)).setCell ⟨w.heap.size, j, none⟩ (.pointer (some ⟨wr.heap.size, 0, none⟩)))) := hst
      clear hst hlad hs hc hcj
      go_wp2_with (go_at_call 14; refine (newLevel _ _ _ _).mono ?_; rintro e w' ⟨rfl, rfl⟩)
      go_roundg (gk - 1)
      case measure => omega
      case rel => exact ⟨j + 1, by omega, by go_num, HS.out⟩
    · have : j = n := by omega
      subst this
      go_wp2
      go_ret
      exact ⟨rfl, hlad⟩

end Go.Proofs.Qxb6601723a
