import Derived.Test.Qxb6601770aA
namespace Go.Proofs.Qxb6601770a
open Go.RowKit
set_option linter.unusedVariables false

/-! ### bytes -/
def U (l : List Int) : List Value := l.map (Value.int .u8)
theorem U_length (l : List Int) : (U l).length = l.length := by simp [U]
theorem U_append (a b : List Int) : U (a ++ b) = U a ++ U b := by simp [U]
theorem U_get (l : List Int) (i : Nat) (h : i < l.length) : (U l)[i]? = some (.int .u8 (l.getD i 0)) := by
  simp [U, h]
theorem U_one (l : List Int) : ∀ u ∈ U l, u.oneCell' = true := by
  intro u hu
  obtain ⟨_, _, rfl⟩ := List.mem_map.1 hu
  rfl

/-- A slice of bytes that can be read. -/
def Rd (w : World) (a : Option Addr) (l : List Int) : Prop :=
  ∀ i, i < l.length → ∃ b off, a = some ⟨b, off, none⟩ ∧ w.cell? ⟨b, off + i, none⟩ = some (.int .u8 (l.getD i 0))

theorem Rd.below {w w' : World} {a : Option Addr} {l : List Int} (h : Rd w a l) (hb : Below w.heap.size w w') : Rd w' a l := by
  intro i hi
  obtain ⟨b, off, ha, hc⟩ := h i hi
  exact ⟨b, off, ha, by rw [hb.cell (World.block_lt_of_cell? w _ hc)]; exact hc⟩
theorem Rd.drewN {w : World} {a : Option Addr} {l : List Int} (h : Rd w a l) (k : Nat) : Rd (w.drewN k) a l := h
theorem Rd.nil (w : World) (a : Option Addr) : Rd w a [] := fun i hi => absurd hi (Nat.not_lt_zero i)

theorem Rd.at {w : World} {a : Option Addr} {l : List Int} (h : Rd w a l) (hp : 0 < l.length) : ∃ b off, a = some ⟨b, off, none⟩ ∧ ∀ i, i < l.length → w.cell? ⟨b, off + i, none⟩ = some (.int .u8 (l.getD i 0)) := by
  obtain ⟨b, off, ha, _⟩ := h 0 hp
  refine ⟨b, off, ha, fun i hi => ?_⟩
  obtain ⟨b', off', ha', hc⟩ := h i hi
  rw [ha] at ha'
  simp at ha'
  obtain ⟨rfl, rfl⟩ := ha'
  exact hc

/-- What the call owns can be read. -/
theorem rd_of_owns {w : World} {base n cap : Nat} {ao : Option Addr} {l : List Int} (h : w.ownsRow base 5 1 (.slice ao n cap) n (U l)) (hl : l.length = n) : Rd w ao l := by
  intro i hi
  rcases h.2 with ⟨h', rfl⟩ | ⟨g, cap', cur, h', _⟩
  · omega
  · simp only [Value.slice.injEq] at h'
    obtain ⟨rfl, _, rfl⟩ := h'
    refine ⟨g, 0, rfl, ?_⟩
    rw [Nat.zero_add, h.cellAt i (by omega), U_get l i hi]

theorem owns_none {w : World} {base n cap : Nat} {ao : Option Addr} {xs : List Value} (h : w.ownsRow base 5 1 (.slice ao n cap) n xs) : ao = none → n = 0 ∧ cap = 0 := by
  intro e
  subst e
  rcases h.2 with ⟨h', _⟩ | ⟨g, cap', cur, h', _⟩
  · simp at h'; exact h'
  · simp at h'

theorem owns_below {w w' : World} {base n cap : Nat} {ao : Option Addr} {xs : List Value} (h : w.ownsRow base 5 1 (.slice ao n cap) n xs) (hb : Below w.heap.size w w') : w'.ownsRow base 5 1 (.slice ao n cap) n xs := by
  refine ⟨h.1, ?_⟩
  rcases h.2 with h' | ⟨g, cap', cur, h', h2, hg, r⟩
  · exact .inl h'
  · exact .inr ⟨g, cap', cur, h', h2, (hb.block g (Array.getElem?_eq_some_iff.1 hg).1).trans hg, r⟩

theorem owns_mono {w : World} {base base' n cap : Nat} {ao : Option Addr} {xs : List Value} (h : w.ownsRow base 5 1 (.slice ao n cap) n xs) (hb : base' ≤ base) : w.ownsRow base' 5 1 (.slice ao n cap) n xs := by
  refine ⟨h.1, ?_⟩
  rcases h.2 with h' | ⟨g, cap', cur, h', h2, r⟩
  · exact .inl h'
  · exact .inr ⟨g, cap', cur, h', by omega, r⟩

theorem owns_of_row {w : World} {base g n : Nat} {l : List Int} (h : w.rowIs g 5 n (fun i => .int .u8 (l.getD i 0))) (hl : l.length = n) (hb : base ≤ g) (hn : n ≤ maxLen) : w.ownsRow base 5 1 (.slice (some ⟨g, 0, none⟩) n n) n (U l) := by
  obtain ⟨c, hg, hc, hi⟩ := h
  refine ⟨by rw [U_length]; omega, .inr ⟨g, n, c, rfl, hb, hg, Nat.le_refl _, hn, by omega, ?_⟩⟩
  apply List.ext_getElem?
  intro i
  by_cases h : i < n
  · rw [List.getElem?_take, if_pos (by omega), Array.getElem?_toList, hi i h, U_get l i (by omega)]
  · rw [List.getElem?_eq_none (by simp; omega), List.getElem?_eq_none (by rw [U_length]; omega)]

theorem src_rd {w : World} {a : Option Addr} {l : List Int} {n c tx : Nat} (htx : Try.prog.underlying tx = some (.slice 5)) (h : Rd w a l) (hl : l.length = n) (hn : a = none → n = 0) : Src Try.prog 1 tx (.slice a n c) n (U l) w := by
  cases a with
  | none =>
    obtain rfl := hn rfl
    obtain rfl : l = [] := List.eq_nil_of_length_eq_zero hl
    exact Src.ofNil w htx c
  | some x =>
    refine Src.ofSlice w htx x n c (U l) (by rw [U_length]; omega) ?_ (U_one l)
    intro j u hu
    have hj : j < l.length := by
      have := (List.getElem?_eq_some_iff.1 hu).1
      rwa [U_length] at this
    obtain ⟨b, off, ha, hc⟩ := h.at (by omega)
    obtain rfl : x = ⟨b, off, none⟩ := by simpa using ha
    rw [U_get l j hj] at hu
    rw [← hu, Go.WideShapes.add_plain]
    exact hc j hj

theorem info5 : (Try.prog.info? 5).map (fun i => (i.zero, i.size, i.bytes)) = some (some (.int .u8 0), 1, 1) := by kernel_rfl

/-- append onto a slice of the call's own, from a slice that can be read. -/
theorem app_rd {w : World} {t tx ty base n m c : Nat} {v : Value} {la : List Int} {a : Option Addr} {lb : List Int} (ht : Try.prog.underlying t = some (.slice 5)) (htx : Try.prog.underlying tx = some (.slice 5))
    (hown : w.ownsRow base 5 1 v n (U la)) (h : Rd w a lb) (hl : lb.length = m) (hn : a = none → m = 0) (hb : n + m ≤ 140737488355328) (hbase : base ≤ w.heap.size) :
    Appended Try.prog w t tx ty 5 base v (.slice a m c) n m (U la) (U lb) := by
  obtain ⟨i0, hi0, hz0, hz1, hz2⟩ := info_parts info5
  exact append_src w t tx ty 5 base i0 (.int .u8 0) ht hi0 hz0 hz1 hz2 rfl v n (U la) hown _ m (U lb) (src_rd htx h hl hn) hb hbase

/-! ### zzClone -/
theorem clone_nil (w : World) : Calls Try.prog 10 #[.slice none 0 0] w fun e w' => e = .returned (.slice none 0 0) ∧ w' = w := by
  have hnil := fun w a n c => Lib.run_eql_slice_nil (P := Try.prog) w 22 5 a n c 0 0 Try.underlying22
  go_enter Try.func10, Try.ntmps10
  go_wp2
  go_ret
  exact ⟨rfl, rfl⟩

set_option maxHeartbeats 400000 in
theorem clone_some (x : Addr) (len cap : Nat) (l : List Int) (w : World) (hl : l.length = len) (hb : len ≤ 4194304) (hr : Rd w (some x) l) :
   Calls Try.prog 10 #[.slice (some x) len cap] w fun e w' => e = .returned (.slice (some ⟨w.heap.size, 0, none⟩) len len) ∧
     w'.rowIs w.heap.size 5 len (fun i => .int .u8 (l.getD i 0)) ∧ Below w.heap.size w w' := by
  have hnil := fun w a n c => Lib.run_eql_slice_nil (P := Try.prog) w 22 5 a n c 0 0 Try.underlying22
  have hmk := run_make_row' (P := Try.prog) 22 5 (.int .u8 0) 1 Try.underlying22 info5 rfl .i64 .i64 len (by omega) (by omega)
  have HL : Hid (l.length = len) := hl
  clear hl
  go_enter Try.func10, Try.ntmps10
  go_wp2
  clear hmk hnil
  go_loopg [4] len (fun k i wr => ∃ j : Nat, j + k = len ∧ i = .int .i64 j ∧ wr.rowIs w.heap.size 5 len (fun t => .int .u8 (if t < j then l.getD t 0 else 0)) ∧ Below w.heap.size w wr)
  case atStart => exact ⟨0, by omega, rfl, (World.rowIs_made w _ len 5).congr (fun i hi => by simp), (Below.refl _ _).alloc (Nat.le_refl _) _⟩
  case round =>
    obtain ⟨j, hj, rfl, hrow, hbel⟩ := hrel
    by_cases hlt : j < len
    · obtain ⟨b, off, hx, hc⟩ := hr j (by have := HL.out; omega)
      obtain rfl : x = ⟨b, off, none⟩ := by simpa using hx
      have hcx : wr.cell? ⟨b, off + j, none⟩ = some (.int .u8 (l.getD j 0)) := by
        rw [hbel.cell (World.block_lt_of_cell? w _ hc)]; exact hc
      have hf := hrow.frozen j
      have hcj : wr.cell? ⟨w.heap.size, j, none⟩ = some (.int .u8 0) := by have := hrow.cell hlt; simpa using this
      obtain ⟨y, hy⟩ : ∃ y, y = l.getD j 0 := ⟨_, rfl⟩
      rw [← hy] at hcx
      have HY : Hid (y = l.getD j 0) := hy
      clear hy hc hx hr
      go_wp2
      go_roundg (gk - 1)
      case measure => omega
      case rel =>
        refine ⟨j + 1, by omega, by go_num, (hrow.set j _).congr ?_, hbel.setCell (Nat.le_refl _) _⟩
        intro i hi
        split
        · subst_vars; simp
        · congr 1; split <;> split <;> first | rfl | omega
    · go_wp2
      go_ret
      refine ⟨rfl, hrow.congr ?_, hbel⟩
      intro i hi
      rw [if_pos (by omega)]

theorem clone_any (a : Option Addr) (len cap : Nat) (l : List Int) (w : World) (hl : l.length = len) (hb : len ≤ 4194304) (hn : a = none → len = 0 ∧ cap = 0) (hr : Rd w a l) :
    Calls Try.prog 10 #[.slice a len cap] w fun e w' => ∃ ao c, e = .returned (.slice ao len c) ∧ w'.ownsRow w.heap.size 5 1 (.slice ao len c) len (U l) ∧ Below w.heap.size w w' := by
  cases a with
  | none =>
    obtain ⟨rfl, rfl⟩ := hn rfl
    obtain rfl : l = [] := List.eq_nil_of_length_eq_zero hl
    exact (clone_nil w).mono fun e w' ⟨he, hw⟩ => ⟨none, 0, he, World.ownsRow_nil _ _ _ _, by rw [hw]; exact Below.refl _ _⟩
  | some x =>
    exact (clone_some x len cap l w hl hb hr).mono fun e w' ⟨he, hrow, hbel⟩ => ⟨_, _, he, owns_of_row hrow hl (Nat.le_refl _) (by unfold maxLen; omega), hbel⟩

end Go.Proofs.Qxb6601770a
