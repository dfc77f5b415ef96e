import Derived.Test.Qxb6601770aD
namespace Go.Proofs.Qxb6601770a
open Go.RowKit
set_option linter.unusedVariables false

/-- A derBuilder variable in block D: it holds a slice of the call's own, the bytes l. -/
structure Der (w : World) (D base : Nat) (l : List Int) (N : Nat) (ao : Option Addr) (cap : Nat) : Prop where
  box : w.heap[D]? = some (.cells #[.slice ao N cap] 39 (0, 0))
  own : w.ownsRow base 5 1 (.slice ao N cap) N (U l)
  len : l.length = N
  lo : base ≤ D

section
variable {w w1 : World} {D base N : Nat} {l : List Int} {ao : Option Addr} {cap : Nat}

theorem Der.lt (h : Der w D base l N ao cap) : D < w.heap.size := (Array.getElem?_eq_some_iff.1 h.box).1
theorem Der.cell (h : Der w D base l N ao cap) : w.cell? ⟨D, 0, none⟩ = some (.slice ao N cap) := cell_of_row _ _ 0 _ 39 (0, 0) h.box
theorem Der.frozen (h : Der w D base l N ao cap) : w.frozen? ⟨D, 0, none⟩ = false := frozen_of_row _ _ 0 _ 39 h.box
theorem Der.ne (h : Der w D base l N ao cap) : some D ≠ (Value.slice ao N cap).ownBlock := by
  intro e
  rcases h.own.2 with ⟨h', _⟩ | ⟨g, cap', cur, h', _, hg, _⟩
  · rw [h'] at e; simp [Value.ownBlock] at e
  · rw [h'] at e
    simp [Value.ownBlock] at e
    subst e
    rw [h.box] at hg
    simp at hg

theorem Der.below (h : Der w D base l N ao cap) (hb : Below w.heap.size w w1) : Der w1 D base l N ao cap :=
  ⟨(hb.block _ h.lt).trans h.box, owns_below h.own hb, h.len, h.lo⟩

/-- Behind an append: the variable's block is as it was. -/
theorem Der.kept (h : Der w D base l N ao cap) (hb : Below w.heap.size w w1) {w2 : World} (hg : w1.grownBy w2 (Value.slice ao N cap).ownBlock) : w2.heap[D]? = some (.cells #[.slice ao N cap] 39 (0, 0)) := by
  rw [hg.block D (Nat.lt_of_lt_of_le h.lt hb.size) h.ne]
  exact (h.below hb).box

/-- The new slice is stored back. -/
theorem Der.stored {w2 : World} {news : List Int} {N' : Nat} {v : Value} {ao' : Option Addr} {cap' : Nat} (hbox : w2.heap[D]? = some (.cells #[v] 39 (0, 0))) (hown : w2.ownsRow base 5 1 (.slice ao' N' cap') N' (U l ++ U news)) (hl : (l ++ news).length = N') (hlo : base ≤ D) :
    Der (w2.setCell ⟨D, 0, none⟩ (.slice ao' N' cap')) D base (l ++ news) N' ao' cap' := by
  refine ⟨heap_setCell_same w2 D 0 _ 39 _ hbox, ?_, hl, hlo⟩
  refine ⟨by rw [U_append]; exact hown.1, ?_⟩
  rw [U_append]
  rcases hown.2 with h' | ⟨g, c, cur, h', h2, hg, r⟩
  · exact .inl h'
  · refine .inr ⟨g, c, cur, h', h2, ?_, r⟩
    rw [heap_setCell_other w2 ⟨D, 0, none⟩ g _ (fun e => ?_)]
    · exact hg
    · simp at e
      subst e
      rw [hbox] at hg
      simp at hg
end

set_option maxHeartbeats 400000 in
theorem begin (D base : Nat) (l : List Int) (N : Nat) (ao : Option Addr) (cap : Nat) (t : Int) (w : World) (h : Der w D base l N ao cap) (hN : N ≤ 16777216) (hbs : base ≤ w.heap.size) :
    Calls Try.prog 28 #[.pointer (some ⟨D, 0, none⟩), .int .u8 t] w fun e w' => e = .returned (.int .i64 ((N : Int) + 2)) ∧ Below base w w' ∧ ∃ ao' cap', Der w' D base (l ++ [t, 0]) (N + 2) ao' cap' := by
  have hc := h.cell
  have hfz := h.frozen
  have hb0 : Below w.heap.size w (w.alloc (.cells #[.int .u8 t, .int .u8 0] 5)) := (Below.refl _ _).alloc (Nat.le_refl _) _
  have ho0 : (w.alloc (.cells #[.int .u8 t, .int .u8 0] 5)).ownsRow w.heap.size 5 1 (.slice (some ⟨w.heap.size, 0, none⟩) 2 2) 2 (U [t, 0]) := owns_lit w [t, 0] (by simp)
  have ro0 := rd_of_owns ho0 rfl
  have hd0 := h.below hb0
  have H : Hid (Der w D base l N ao cap) := h
  clear h
  go_enter Try.func28, Try.ntmps28
  go_wp2_with (at_builtin; refine wpList_appended _ rfl (.tmp 8) (.tmp 10) 39 39 rfl 5 base _ _ N 2 (N + 2) rfl (U l) (U [t, 0]) rfl rfl (fun ty => app_rd Try.underlying39 Try.underlying39 hd0.own ro0 rfl (fun h => by cases h) (by omega) (by simp; omega)) ?_; intro ao1 c1 w1 hown1 hg1; have hbx : w1.heap[D]? = some (.cells #[.slice ao N cap] 39 (0, 0)) := H.out.kept hb0 hg1; have hcx : w1.cell? ⟨D, 0, none⟩ = some (.slice ao N cap) := cell_of_row _ _ 0 _ 39 (0, 0) hbx; have hfx : w1.frozen? ⟨D, 0, none⟩ = false := frozen_of_row _ _ 0 _ 39 hbx)
  go_ret
  refine ⟨rfl, ?_, ao1, c1, Der.stored hbx hown1 (by simp; exact H.out.len) H.out.lo⟩
  exact (below_grown (hb0.mono hbs) hd0.own hg1 (Nat.le_refl _) (by simp; omega)).setCell H.out.lo _

end Go.Proofs.Qxb6601770a
