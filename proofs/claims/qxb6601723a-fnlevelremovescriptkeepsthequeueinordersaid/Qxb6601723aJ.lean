import Derived.Test.Qxb6601723aI
import Derived.Deep.RegionHeld3
namespace Go.Proofs.Qxb6601723a
open Go.RowKit
set_option linter.unusedVariables false

theorem queue_made {w wr : World} {B n : Nat} {z : Nat → Int} (h : Linked w B n n z wr) (pr : Int) (o : Obj) (ho : o = .cells #[.int .i64 pr, .pointer (nx (fun i => B + 1 + i) n 0), .pointer (pv (fun i => B + 1 + i) n)] 63) :
    Queue (wr.alloc o) wr.heap.size pr n (fun i => B + 1 + i) (fun b => z (b - (B + 1))) := by
  subst ho
  refine ⟨heap_alloc_new wr _, fun i hi => ?_, fun i j _ _ e => by simp at e; omega⟩
  have hs := h.size
  rw [Below.heap_alloc _ _ _ (by omega), h.nod i hi, if_pos hi, if_pos hi]
  simp

theorem Queue.below {w w' : World} {V : Nat} {pr : Int} {n : Nat} {q : Nat → Nat} {id : Nat → Int} (h : Queue w V pr n q id) (hb : Below w.heap.size w w') : Queue w' V pr n q id :=
  h.kept (hb.block _ (Array.getElem?_eq_some_iff.1 h.lev).1) (fun i hi => hb.block _ (Array.getElem?_eq_some_iff.1 (h.nod i hi)).1)

theorem rowIs_below {w w' : World} {b t n : Nat} {f : Nat → Value} (h : w.rowIs b t n f) (hb : Below w.heap.size w w') : w'.rowIs b t n f := h.of_block (hb.block _ h.lt)

/-- Behind 'remove' every order still bears its id. -/
theorem Removed.ids {w w' : World} {V : Nat} {pr : Int} {m : Nat} {q : Nat → Nat} {id : Nat → Int} {k : Nat} (h : Removed w w' V pr m q id k) (hk : k ≤ m) {i : Nat} (hi : i < m + 1) : w'.cell? ⟨q i, 0, none⟩ = some (.int .i64 (id (q i))) := by
  by_cases e : i = k
  · subst e
    exact cell_of_row _ _ 0 _ 39 (0, 0) h.gone
  · by_cases l : i < k
    · have := h.queue.cId (i := i) (by omega)
      rwa [show del q k i = q i from if_pos l] at this
    · have := h.queue.cId (i := i - 1) (by omega)
      rwa [show del q k (i - 1) = q i from by rw [del, if_neg (by omega)]; congr 1; omega] at this

theorem Removed.belowOf {w w' : World} {V : Nat} {pr : Int} {m : Nat} {q : Nat → Nat} {id : Nat → Int} {k B : Nat} (h : Removed w w' V pr m q id k) (hV : B ≤ V) (hq : ∀ i, i < m + 1 → B ≤ q i) : Below B w w' :=
  ⟨h.os, h.tape, h.output, by rw [h.size]; exact Nat.le_refl _, fun b hb => h.rest b (by omega) (fun i hi => by have := hq i hi; omega)⟩

/-- 'make([]*Order, 0, n)'. -/
theorem make_orders (n : Nat) (hn : n ≤ 1048576) (w : World) : (Instr.makeSlice 43 (.int .i64 0) (.int .i64 (n : Int))).run Try.prog w = .ok (.slice (some ⟨w.heap.size, 0, none⟩) 0 n) (w.alloc (.cells (madeCells #[.pointer none] n) 30)) := by
  obtain ⟨i, hi, hz, hs, hb⟩ := info_parts info30
  have hr := run_make (P := Try.prog) w 43 30 i (.pointer none) Try.underlying43 hi hz .i64 .i64 0 (n : Int) (by omega) (by omega) (by rw [hb]; omega) (by omega)
  simpa [hs, Value.cells] using hr

/-- The pointers that have been gathered. -/
def ptrs (q : Nat → Nat) (c : Nat) : List Value := (List.range c).map fun i => .pointer (some ⟨q i, 0, none⟩)
theorem ptrs_succ (q : Nat → Nat) (c : Nat) : ptrs q (c + 1) = ptrs q c ++ [.pointer (some ⟨q c, 0, none⟩)] := by simp [ptrs, List.range_succ]
theorem ptrs_length (q : Nat → Nat) (c : Nat) : (ptrs q c).length = c := by simp [ptrs]
theorem want_of_owns {w : World} {base g n cap : Nat} {q : Nat → Nat} (h : w.ownsRow base 30 1 (.slice (some ⟨g, 0, none⟩) n cap) n (ptrs q n)) : Want w g n q := by
  intro i hi
  rw [h.cellAt i (by omega)]
  simp [ptrs, hi]
theorem owns_made (w : World) (n : Nat) (hn : n ≤ 1048576) (q : Nat → Nat) : (w.alloc (.cells (madeCells #[.pointer none] n) 30)).ownsRow 0 30 1 (.slice (some ⟨w.heap.size, 0, none⟩) 0 n) 0 (ptrs q 0) :=
  World.ownsRow_made w _ n (Nat.zero_le _) (by unfold maxLen; omega) (by simp [madeCells])

end Go.Proofs.Qxb6601723a
