import Derived.Test.Qxb6601723aK
import Derived.Deep.RegionHeld3
namespace Go.Proofs.Qxb6601723a
open Go.RowKit
set_option linter.unusedVariables false

/-! ### 'cloneIntB1': as 'cloneI64B1' -/
theorem info3 : (Try.prog.info? 3).map (fun i => (i.zero, i.size, i.bytes)) = some (some (.int .i64 0), 1, 8) := by kernel_rfl

theorem cloneInt_nil (w : World) : Calls Try.prog 21 #[.slice none 0 0] w fun e w' => e = .returned (.slice none 0 0) ∧ w' = w := by
  have hnil := fun w a n c => Lib.run_eql_slice_nil (P := Try.prog) w 50 3 a n c 0 0 Try.underlying50
  go_enter Try.func21, Try.ntmps21
  go_wp2
  go_ret
  exact ⟨rfl, rfl⟩

set_option maxHeartbeats 400000 in
theorem cloneInt_pos (b off len cap : Nat) (z : Nat → Int) (w : World) (hl : len ≤ 1048576) (hc : ∀ i, i < len → w.cell? ⟨b, off + i, none⟩ = some (.int .i64 (z i))) :
   Calls Try.prog 21 #[.slice (some ⟨b, off, none⟩) len cap] w fun e w' => e = .returned (.slice (some ⟨w.heap.size, 0, none⟩) len len) ∧
     w'.rowIs w.heap.size 3 len (fun i => .int .i64 (z i)) ∧ Below w.heap.size w w' ∧ w'.heap.size = w.heap.size + 1 := by
  have hnil := fun w a n c => Lib.run_eql_slice_nil (P := Try.prog) w 50 3 a n c 0 0 Try.underlying50
  have hmk := run_make_row' (P := Try.prog) 50 3 (.int .i64 0) 8 Try.underlying50 info3 rfl .i64 .i64 len (by omega) (by omega)
  go_enter Try.func21, Try.ntmps21
  go_wp2
  clear hmk hnil
  go_loopg [4] len (fun k i wr => ∃ j : Nat, j + k = len ∧ i = .int .i64 j ∧ wr.rowIs w.heap.size 3 len (fun t => .int .i64 (if t < j then z t else 0)) ∧ Below w.heap.size w wr ∧ wr.heap.size = w.heap.size + 1)
  case atStart => exact ⟨0, by omega, rfl, (World.rowIs_made w _ len 3).congr (fun i hi => by simp), (Below.refl _ _).alloc (Nat.le_refl _) _, by simp⟩
  case round =>
    obtain ⟨j, hj, rfl, hrow, hbel, hsz⟩ := hrel
    by_cases hlt : j < len
    · have hcx : wr.cell? ⟨b, off + j, none⟩ = some (.int .i64 (z j)) := by
        have h := hc j hlt
        rw [hbel.cell (World.block_lt_of_cell? w _ h)]; exact h
      have hf := hrow.frozen j
      have hcj := hrow.cell hlt
      simp at hcj
      go_wp2
      go_roundg (gk - 1)
      case measure => omega
      case rel =>
        refine ⟨j + 1, by omega, by go_num, (hrow.set j _).congr ?_, hbel.setCell (Nat.le_refl _) _, by simp [World.setCell, hsz]⟩
        intro i hi
        split
        · subst_vars; simp
        · congr 1; split <;> split <;> first | rfl | omega
    · go_wp2
      go_ret
      refine ⟨rfl, hrow.congr ?_, hbel, hsz⟩
      intro i hi
      simp; omega

theorem cloneInt_zero (x : Addr) (cap : Nat) (w : World) :
   Calls Try.prog 21 #[.slice (some x) 0 cap] w fun e w' => e = .returned (.slice (some ⟨w.heap.size, 0, none⟩) 0 0) ∧ Below w.heap.size w w' := by
  have hnil := fun w a n c => Lib.run_eql_slice_nil (P := Try.prog) w 50 3 a n c 0 0 Try.underlying50
  have hmk := run_make_row' (P := Try.prog) 50 3 (.int .i64 0) 8 Try.underlying50 info3 rfl .i64 .i64 0 (by omega) (by omega)
  simp only [Int.ofNat_zero] at hmk
  go_enter Try.func21, Try.ntmps21
  go_wp2
  clear hmk hnil
  go_loopg [4] 0 (fun k i wr => i = .int .i64 0 ∧ Below w.heap.size w wr)
  case atStart => exact ⟨rfl, (Below.refl _ _).alloc (Nat.le_refl _) _⟩
  case round =>
    obtain ⟨rfl, hbel⟩ := hrel
    go_wp2
    go_ret
    exact ⟨rfl, hbel⟩

theorem cloneInt_any (a : Option Addr) (n cap : Nat) (z : Nat → Int) (w : World) (hl : n ≤ 1048576) (hnone : a = none → n = 0 ∧ cap = 0) (hs : Src .i64 w a n z) :
    Calls Try.prog 21 #[.slice a n cap] w fun e w' => ∃ a', e = .returned (.slice a' n n) ∧ Src .i64 w' a' n z ∧ Below w.heap.size w w' := by
  cases a with
  | none =>
    obtain ⟨rfl, rfl⟩ := hnone rfl
    exact (cloneInt_nil w).mono fun e w' ⟨he, hw⟩ => ⟨none, he, fun i hi => absurd hi (Nat.not_lt_zero i), by rw [hw]; exact Below.refl _ _⟩
  | some x =>
    by_cases h0 : n = 0
    · subst h0
      exact (cloneInt_zero x cap w).mono fun e w' ⟨he, hw⟩ => ⟨_, he, fun i hi => absurd hi (Nat.not_lt_zero i), hw⟩
    · obtain ⟨b, off, hx, hc⟩ := hs 0 (by omega)
      obtain rfl : x = ⟨b, off, none⟩ := by simpa using hx
      refine (cloneInt_pos b off n cap z w hl ?_).mono fun e w' ⟨he, hr, hb, _⟩ => ⟨_, he, Src.row hr, hb⟩
      intro i hi
      obtain ⟨b', off', hx', hc'⟩ := hs i hi
      simp at hx'
      obtain ⟨rfl, rfl⟩ := hx'
      exact hc'


theorem bytes20 (a0 : Option Addr) (len0 cap0 : Nat) (a1 : Option Addr) (len1 cap1 : Nat) (w : World) (h : len0 + len1 ≤ 1048576) :
   Calls Try.prog 20 #[.slice a0 len0 cap0, .slice a1 len1 cap1] w fun e w' => e = .returned (.bool true) ∧ w' = w := by
  go_enter Try.func20, Try.ntmps20
  go_wp2
  go_ret
  exact ⟨rfl, rfl⟩
theorem bytes20_any (a0 : Option Addr) (len0 cap0 : Nat) (a1 : Option Addr) (len1 cap1 : Nat) (w : World) (h0 : len0 ≤ maxLen) (h1 : len1 ≤ maxLen) (h : 1048576 < len0 + len1) :
   Calls Try.prog 20 #[.slice a0 len0 cap0, .slice a1 len1 cap1] w fun e w' => e = .returned (.bool false) ∧ w' = w := by
  unfold maxLen at h0 h1
  by_cases h2 : 1048576 < len0
  · go_enter Try.func20, Try.ntmps20
    go_wp2
    go_ret
    exact ⟨rfl, rfl⟩
  · by_cases h3 : 1048576 < len1
    · go_enter Try.func20, Try.ntmps20
      go_wp2
      go_ret
      exact ⟨rfl, rfl⟩
    · go_enter Try.func20, Try.ntmps20
      go_wp2
      go_ret
      exact ⟨rfl, rfl⟩

/-- The model list in memory. -/
structure Model (w : World) (g m : Nat) (q : Nat → Nat) : Prop where
  blk : ∃ c, w.heap[g]? = some (.cells c 30 (0, 0))
  want : Want w g m q

theorem Model.below {w w' : World} {g m : Nat} {q : Nat → Nat} (h : Model w g m q) (hb : Below w.heap.size w w') : Model w' g m q := by
  obtain ⟨c, hc⟩ := h.blk
  have hlt := (Array.getElem?_eq_some_iff.1 hc).1
  exact ⟨⟨c, (hb.block _ hlt).trans hc⟩, fun i hi => (hb.cell (p := ⟨g, i, none⟩) hlt).trans (h.want i hi)⟩

theorem Model.removed {w w' : World} {V : Nat} {pr : Int} {m : Nat} {q : Nat → Nat} {id : Nat → Int} {k g : Nat} (h : Model w g (m + 1) q) (hq : Queue w V pr (m + 1) q id) (hr : Removed w w' V pr m q id k) : Model w' g (m + 1) q := by
  obtain ⟨c, hc⟩ := h.blk
  have e : w'.heap[g]? = w.heap[g]? := hr.rest g (fun e => by rw [e, hq.lev] at hc; simp at hc) (fun i hi e => by rw [e, hq.nod i hi] at hc; simp at hc)
  exact ⟨⟨c, e.trans hc⟩, fun i hi => (World.cell?_of_block (a := ⟨g, i, none⟩) e).trans (h.want i hi)⟩

theorem model_of_row {w : World} {g m : Nat} {q : Nat → Nat} (h : w.rowIs g 30 m (fun t => .pointer (some ⟨q t, 0, none⟩))) : Model w g m q := by
  refine ⟨?_, fun i hi => h.cell hi⟩
  obtain ⟨c, hc, _⟩ := h
  exact ⟨c, hc⟩

theorem model_of_owns {w : World} {base g n cap : Nat} {q : Nat → Nat} (h : w.ownsRow base 30 1 (.slice (some ⟨g, 0, none⟩) n cap) n (ptrs q n)) : Model w g n q := by
  refine ⟨?_, want_of_owns h⟩
  rcases h.2 with ⟨h', _⟩ | ⟨g', cap', cur, h', _, hg, _⟩
  · simp at h'
  · simp only [Value.slice.injEq, Option.some.injEq, Addr.mk.injEq, and_true, true_and] at h'
    obtain ⟨rfl, rfl⟩ := h'
    exact ⟨cur, hg⟩

/-- What stands behind the level's making. -/
theorem scene5 {w2 w3 : World} {len : Nat} {z : Nat → Int} (hl : Linked w2 w2.heap.size len len z w3) (hd tl : Option Addr) (h1 : hd = nx (fun i => w2.heap.size + 1 + i) len 0) (h2 : tl = pv (fun i => w2.heap.size + 1 + i) len) :
    ∃ W, w3.alloc (.cells #[.int .i64 0, .pointer hd, .pointer tl] 63) = W ∧
      Queue W w3.heap.size 0 len (fun i => w2.heap.size + 1 + i) (fun b => z (b - (w2.heap.size + 1))) ∧ W.rowIs w2.heap.size 30 len (fun t => .pointer (some ⟨w2.heap.size + 1 + t, 0, none⟩)) ∧
      Below w2.heap.size w2 W ∧ w2.heap.size + 1 ≤ w3.heap.size ∧ W.heap.size = w3.heap.size + 1 := by
  have hs := hl.size
  refine ⟨_, rfl, ?_, hl.row.alloc _, hl.bel.alloc (by omega) _, by omega, by simp⟩
  exact queue_made hl 0 _ (by rw [h1, h2])

/-- The copy of the nodes, as far as place j. -/
structure Copied (W : World) (g n j : Nat) (q : Nat → Nat) (wr : World) : Prop where
  row : wr.rowIs g 30 n (fun t => .pointer (if t < j then some ⟨q t, 0, none⟩ else none))
  bel : Below g W wr
  size : W.heap.size = g

theorem Copied.start (W : World) (g n : Nat) (q : Nat → Nat) (hg : W.heap.size = g) : Copied W g n 0 q (W.alloc (.cells (madeCells #[.pointer none] n) 30)) := by
  subst hg
  exact ⟨(World.rowIs_made W _ n 30).congr (fun i hi => by simp), (Below.refl _ _).alloc (Nat.le_refl _) _, rfl⟩

theorem Copied.step {W wr : World} {g n j : Nat} {q : Nat → Nat} (h : Copied W g n j q wr) (hj : j < n) : Copied W g n (j + 1) q (wr.setCell ⟨g, j, none⟩ (.pointer (some ⟨q j, 0, none⟩))) := by
  refine ⟨(h.row.set j _).congr fun t ht => ?_, h.bel.setCell (Nat.le_refl _) _, h.size⟩
  split
  · subst_vars; simp
  · congr 1; split <;> split <;> first | rfl | omega

theorem Copied.belW {W wr : World} {g n j : Nat} {q : Nat → Nat} (h : Copied W g n j q wr) : Below W.heap.size W wr := by rw [h.size]; exact h.bel

end Go.Proofs.Qxb6601723a
