import Derived.Test.Qxb6601723aH
namespace Go.Proofs.Qxb6601723a
open Go.RowKit
set_option linter.unusedVariables false

theorem info30 : (Try.prog.info? 30).map (fun i => (i.zero, i.size, i.bytes)) = some (some (.pointer none), 1, 8) := by kernel_rfl

/-- The orders that 'buildQueueB1' has made so far: unlinked. -/
structure Made (w : World) (B n j : Nat) (z : Nat → Int) (wr : World) : Prop where
  row : wr.rowIs B 30 n (fun t => .pointer (if t < j then some ⟨B + 1 + t, 0, none⟩ else none))
  nod : ∀ t, t < j → wr.heap[B + 1 + t]? = some (.cells (nodeC (z t) none none) 39 (0, 0))
  size : wr.heap.size = B + 1 + j
  bel : Below B w wr

theorem Made.start (w : World) (n : Nat) (z : Nat → Int) : Made w w.heap.size n 0 z (w.alloc (.cells (madeCells #[.pointer none] n) 30)) :=
  ⟨(World.rowIs_made w _ n 30).congr (fun i hi => by simp), fun t ht => absurd ht (Nat.not_lt_zero t), by simp, (Below.refl _ _).alloc (Nat.le_refl _) _⟩

theorem Made.step {w wr : World} {B n j : Nat} {z : Nat → Int} (h : Made w B n j z wr) (hj : j < n) :
    Made w B n (j + 1) z ((wr.alloc (.cells (nodeC (z j) none none) 39)).setCell ⟨B, j, none⟩ (.pointer (some ⟨wr.heap.size, 0, none⟩))) := by
  have hs := h.size
  refine ⟨?_, ?_, ?_, (h.bel.alloc (by omega) _).setCell (Nat.le_refl _) _⟩
  · refine ((h.row.alloc _).set j _).congr fun t ht => ?_
    rw [h.size]
    split
    · subst_vars; simp
    · congr 1; split <;> split <;> first | rfl | omega
  · intro t ht
    rw [Below.heap_setCell _ _ _ _ (by simp; omega)]
    by_cases e : t = j
    · subst e
      rw [← h.size]
      exact heap_alloc_new wr _
    · rw [Below.heap_alloc _ _ _ (by rw [h.size]; omega)]
      exact h.nod t (by omega)
  · simp [World.setCell, h.size]; omega

/-- The orders linked as far as place j. -/
structure Linked (w : World) (B n j : Nat) (z : Nat → Int) (wr : World) : Prop where
  row : wr.rowIs B 30 n (fun t => .pointer (some ⟨B + 1 + t, 0, none⟩))
  nod : ∀ t, t < n → wr.heap[B + 1 + t]? = some (.cells (nodeC (z t) (if t < j then pv (fun i => B + 1 + i) t else none) (if t < j then nx (fun i => B + 1 + i) n (t + 1) else none)) 39 (0, 0))
  size : wr.heap.size = B + 1 + n
  bel : Below B w wr

theorem Made.linked {w wr : World} {B n : Nat} {z : Nat → Int} (h : Made w B n n z wr) : Linked w B n 0 z wr :=
  ⟨h.row.congr (fun i hi => by simp [hi]), fun t ht => by simpa using h.nod t ht, h.size, h.bel⟩

theorem Linked.step {w wr : World} {B n j : Nat} {z : Nat → Int} (h : Linked w B n j z wr) (hj : j < n) :
    Linked w B n (j + 1) z ((wr.setCell ⟨B + 1 + j, 15, none⟩ (.pointer (pv (fun i => B + 1 + i) j))).setCell ⟨B + 1 + j, 16, none⟩ (.pointer (nx (fun i => B + 1 + i) n (j + 1)))) := by
  refine ⟨(h.row.setOther (by simp; omega) _).setOther (by simp; omega) _, ?_, by simpa [World.setCell] using h.size, (h.bel.setCell (by simp; omega) _).setCell (by simp; omega) _⟩
  intro t ht
  by_cases e : t = j
  · subst e
    rw [sc_eq _ _ _ _ _ _ (sc_eq _ _ _ _ _ _ (h.nod t ht)), set_pv, set_nx, if_pos (by omega), if_pos (by omega)]
  · rw [sc_ne _ _ _ _ _ (by omega), sc_ne _ _ _ _ _ (by omega), h.nod t ht]
    by_cases h2 : t < j
    · rw [if_pos h2, if_pos h2, if_pos (by omega), if_pos (by omega)]
    · rw [if_neg h2, if_neg h2, if_neg (by omega), if_neg (by omega)]

set_option maxHeartbeats 1000000 in
theorem buildQueue (a : Option Addr) (n cap : Nat) (z : Nat → Int) (w : World) (hl : n ≤ 1048576) (hs : Src .i64 w a n z) :
    Calls Try.prog 13 #[.slice a n cap] w fun e w' => e = .returned (.slice (some ⟨w.heap.size, 0, none⟩) n n) ∧ Linked w w.heap.size n n z w' := by
  have hmk := run_make_row' (P := Try.prog) 43 30 (.pointer none) 8 Try.underlying43 info30 rfl .i64 .i64 n (by omega) (by omega)
  go_enter Try.func13, Try.ntmps13
  go_wp2
  clear hmk
  go_loopg [5] n (fun k i wr => ∃ j : Nat, j + k = n ∧ i = .int .i64 j ∧ Made w w.heap.size n j z wr)
  case atStart => exact ⟨0, by omega, rfl, Made.start w n z⟩
  case round =>
    obtain ⟨j, hj, rfl, hlad⟩ := hrel
    by_cases hlt : j < n
    · obtain ⟨b, off, rfl, hc⟩ := hs j hlt
      have hcx : wr.cell? ⟨b, off + j, none⟩ = some (.int .i64 (z j)) := by
        rw [hlad.bel.cell (World.block_lt_of_cell? w _ hc)]; exact hc
      have hf : ∀ o, (wr.alloc o).frozen? ⟨w.heap.size, j, none⟩ = false := fun o => (hlad.row.alloc o).frozen j
      have hcj : ∀ o, (wr.alloc o).cell? ⟨w.heap.size, j, none⟩ = some (.pointer none) := fun o => by
        have := (hlad.row.alloc o).cell hlt
        simpa using this
      have HS : Hid (Made w w.heap.size n (j + 1) z ((wr.alloc (.cells (nodeC (z j) none none) 39)).setCell ⟨w.heap.size, j, none⟩ (.pointer (some ⟨wr.heap.size, 0, none⟩)))) := hlad.step hlt
      clear hlad hs hc
      go_wp2
      go_roundg (gk - 1)
      case measure => omega
      case rel => exact ⟨j + 1, by omega, by go_num, HS.out⟩
    · have : j = n := by omega
      subst this
      have HL : Hid (Linked w w.heap.size j 0 z wr) := hlad.linked
      clear hlad
      go_wp2
      go_loopg [6, 7, 8] j (fun k i u7 u8 wx => ∃ t : Nat, t + k = j ∧ i = .int .i64 t ∧ Linked w w.heap.size j t z wx)
      case atStart => exact ⟨0, by omega, rfl, HL.out⟩
      case round =>
        obtain ⟨t, ht, rfl, hlk⟩ := hrel
        clear HL hs
        by_cases hlt : t < j
        · have ct : wr.cell? ⟨w.heap.size, t, none⟩ = some (.pointer (some ⟨w.heap.size + 1 + t, 0, none⟩)) := hlk.row.cell hlt
          have cm : 0 < t → wr.cell? ⟨w.heap.size, t - 1, none⟩ = some (.pointer (some ⟨w.heap.size + 1 + (t - 1), 0, none⟩)) := fun h => hlk.row.cell (by omega)
          have cp : t + 1 < j → wr.cell? ⟨w.heap.size, t + 1, none⟩ = some (.pointer (some ⟨w.heap.size + 1 + (t + 1), 0, none⟩)) := fun h => hlk.row.cell (by omega)
          have c15 := cell_of_row _ _ 15 _ 39 (0, 0) (hlk.nod t hlt)
          have c16 := cell_of_row _ _ 16 _ 39 (0, 0) (hlk.nod t hlt)
          have fz : ∀ i, wr.frozen? ⟨w.heap.size + 1 + t, i, none⟩ = false := fun i => frozen_of_row _ _ i _ 39 (hlk.nod t hlt)
          have hst := hlk.step hlt
          have C15 : Hid (wr.cell? ⟨w.heap.size + 1 + t, 15, none⟩ = some (.pointer (if t < t then pv (fun i => w.heap.size + 1 + i) t else none))) := c15
          have C16 : Hid (wr.cell? ⟨w.heap.size + 1 + t, 16, none⟩ = some (.pointer (if t < t then nx (fun i => w.heap.size + 1 + i) j (t + 1) else none))) := c16
          clear c15 c16 hlk
          have HS : ∀ p x, p = pv (fun i => w.heap.size + 1 + i) t → x = nx (fun i => w.heap.size + 1 + i) j (t + 1) → Hid (Linked w w.heap.size j (t + 1) z ((wr.setCell ⟨w.heap.size + 1 + t, 15, none⟩ (.pointer p)).setCell ⟨w.heap.size + 1 + t, 16, none⟩ (.pointer x))) := by
            rintro p x rfl rfl; exact hst
          clear hst
          by_cases h0 : 0 < t
          · have cm' := cm h0
            have ep : some ⟨w.heap.size + 1 + (t - 1), 0, none⟩ = pv (fun i => w.heap.size + 1 + i) t := by simp [pv]; omega
            by_cases h1 : t + 1 < j
            · have cp' := cp h1
              have HS' := HS _ _ ep (nx_lt h1).symm
              clear HS ep cm cp
              go_wp2_with (go_at_call 25; refine (zzLinks _ _ _ _ _ _ C15.out C16.out fz).mono ?_; rintro e w' ⟨rfl, rfl⟩)
              go_roundg (gk - 1)
              case measure => omega
              case rel => exact ⟨t + 1, by omega, by go_num, HS'.out⟩
            · have HS' := HS _ _ ep (nx_ge (by omega)).symm
              clear HS ep cm cp
              go_wp2_with (go_at_call 25; refine (zzLinks _ _ _ _ _ _ C15.out C16.out fz).mono ?_; rintro e w' ⟨rfl, rfl⟩)
              go_roundg (gk - 1)
              case measure => omega
              case rel => exact ⟨t + 1, by omega, by go_num, HS'.out⟩
          · have ep : none = pv (fun i => w.heap.size + 1 + i) t := by simp [pv]; omega
            by_cases h1 : t + 1 < j
            · have cp' := cp h1
              have HS' := HS _ _ ep (nx_lt h1).symm
              clear HS ep cm cp
              go_wp2_with (go_at_call 25; refine (zzLinks _ _ _ _ _ _ C15.out C16.out fz).mono ?_; rintro e w' ⟨rfl, rfl⟩)
              go_roundg (gk - 1)
              case measure => omega
              case rel => exact ⟨t + 1, by omega, by go_num, HS'.out⟩
            · have HS' := HS _ _ ep (nx_ge (by omega)).symm
              clear HS ep cm cp
              go_wp2_with (go_at_call 25; refine (zzLinks _ _ _ _ _ _ C15.out C16.out fz).mono ?_; rintro e w' ⟨rfl, rfl⟩)
              go_roundg (gk - 1)
              case measure => omega
              case rel => exact ⟨t + 1, by omega, by go_num, HS'.out⟩
        · have : t = j := by omega
          subst this
          go_wp2
          go_ret
          exact ⟨rfl, hlk⟩

end Go.Proofs.Qxb6601723a
