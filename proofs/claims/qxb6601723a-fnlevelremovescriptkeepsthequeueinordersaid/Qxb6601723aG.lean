import Derived.Test.Qxb6601723aF
namespace Go.Proofs.Qxb6601723a
open Go.RowKit
set_option linter.unusedVariables false

/-- An order's cells: its id, its two links, all else zero. -/
def nodeC (id : Int) (pv nx : Option Addr) : Array Value :=
  #[.int .i64 id, .int .u8 0, .int .u8 0, .int .i64 0, .int .i64 0, .int .u8 0, .int .i64 0, .int .i64 0, .int .u64 0, .int .u64 0, .int .i64 0, .int .u8 0, .int .i64 0, .int .i64 0, .int .i64 0, .pointer pv, .pointer nx]

/-- The node at place i of n (nil behind the last). -/
def nx (q : Nat → Nat) (n i : Nat) : Option Addr := if i < n then some ⟨q i, 0, none⟩ else none
/-- The node ahead of place i (nil ahead of the first). -/
def pv (q : Nat → Nat) (i : Nat) : Option Addr := if i = 0 then none else some ⟨q (i - 1), 0, none⟩

theorem nx_lt {q : Nat → Nat} {n i : Nat} (h : i < n) : nx q n i = some ⟨q i, 0, none⟩ := if_pos h
theorem nx_ge {q : Nat → Nat} {n i : Nat} (h : n ≤ i) : nx q n i = none := if_neg (by omega)
theorem pv_zero {q : Nat → Nat} : pv q 0 = none := rfl
theorem pv_succ {q : Nat → Nat} {i : Nat} : pv q (i + 1) = some ⟨q i, 0, none⟩ := by simp [pv]

/-- A level's queue in memory: n orders, the i-th in block 'q i', linked both ways. -/
structure Queue (w : World) (V : Nat) (pr : Int) (n : Nat) (q : Nat → Nat) (id : Nat → Int) : Prop where
  lev : w.heap[V]? = some (.cells #[.int .i64 pr, .pointer (nx q n 0), .pointer (pv q n)] 63 (0, 0))
  nod : ∀ i, i < n → w.heap[q i]? = some (.cells (nodeC (id (q i)) (pv q i) (nx q n (i + 1))) 39 (0, 0))
  inj : ∀ i j, i < n → j < n → q i = q j → i = j

theorem Queue.off {w : World} {V : Nat} {pr : Int} {n : Nat} {q : Nat → Nat} {id : Nat → Int} (h : Queue w V pr n q id) {i : Nat} (hi : i < n) : q i ≠ V := by
  intro e
  have h1 := h.nod i hi
  rw [e, h.lev] at h1
  simp at h1

theorem Queue.kept {w w' : World} {V : Nat} {pr : Int} {n : Nat} {q : Nat → Nat} {id : Nat → Int} (h : Queue w V pr n q id) (hV : w'.heap[V]? = w.heap[V]?) (hq : ∀ i, i < n → w'.heap[q i]? = w.heap[q i]?) : Queue w' V pr n q id :=
  ⟨hV.trans h.lev, fun i hi => (hq i hi).trans (h.nod i hi), h.inj⟩

/-- The queue without its k-th. -/
def del (q : Nat → Nat) (k : Nat) : Nat → Nat := fun i => if i < k then q i else q (i + 1)

theorem nx_del {q : Nat → Nat} {m k i : Nat} (hk : k ≤ m) : nx (del q k) m i = if i < k then nx q (m + 1) i else nx q (m + 1) (i + 1) := by
  unfold nx del
  split <;> split <;> (try split) <;> first | rfl | omega
theorem pv_del {q : Nat → Nat} {k i : Nat} : pv (del q k) i = if i ≤ k then pv q i else pv q (i + 1) := by
  unfold pv del
  by_cases h0 : i = 0
  · subst h0; simp
  · rw [if_neg h0]
    by_cases h1 : i ≤ k
    · rw [if_pos h1, if_neg h0, if_pos (by omega)]
    · rw [if_neg h1, if_neg (by omega), if_neg (by omega)]
      congr 3
      omega

theorem set_pv {id : Int} {a b c : Option Addr} : (nodeC id a b).setIfInBounds 15 (.pointer c) = nodeC id c b := rfl
theorem set_nx {id : Int} {a b c : Option Addr} : (nodeC id a b).setIfInBounds 16 (.pointer c) = nodeC id a c := rfl

/-- What 'remove' leaves. -/
structure Removed (w w' : World) (V : Nat) (pr : Int) (m : Nat) (q : Nat → Nat) (id : Nat → Int) (k : Nat) : Prop where
  queue : Queue w' V pr m (del q k) id
  gone : w'.heap[q k]? = some (.cells (nodeC (id (q k)) none none) 39 (0, 0))
  os : w'.os = w.os
  tape : w'.tape = w.tape
  output : w'.output = w.output
  size : w'.heap.size = w.heap.size
  rest : ∀ b, b ≠ V → (∀ i, i < m + 1 → b ≠ q i) → w'.heap[b]? = w.heap[b]?

theorem Removed.alike {w w' w'' : World} {V : Nat} {pr : Int} {m : Nat} {q : Nat → Nat} {id : Nat → Int} {k : Nat} (h : Removed w w' V pr m q id k) (ha : w''.Alike w') (ht : w''.tape = w.tape) : Removed w w'' V pr m q id k := by
  obtain ⟨h1, h2, h3⟩ := ha
  exact ⟨h.queue.kept (by rw [h1]) (fun i hi => by rw [h1]), by rw [h1]; exact h.gone, h2.trans h.os, ht, h3.trans h.output, by rw [h1]; exact h.size, fun b hb hq => by rw [h1]; exact h.rest b hb hq⟩

theorem sc_ne (w : World) (b j : Nat) (v : Value) (c : Nat) (h : c ≠ b) : (w.setCell ⟨b, j, none⟩ v).heap[c]? = w.heap[c]? := heap_setCell_other w ⟨b, j, none⟩ c v h
theorem sc_eq (w : World) (b j : Nat) (v : Value) (cs : Array Value) (t : TypeId) (h : w.heap[b]? = some (.cells cs t (0, 0))) : (w.setCell ⟨b, j, none⟩ v).heap[b]? = some (.cells (cs.setIfInBounds j v) t (0, 0)) := heap_setCell_same w b j cs t v h

/-- The two last stores of 'remove', and what is left to be shown of the two first. -/
theorem removed_of {w w2 : World} {V : Nat} {pr : Int} {m : Nat} {q : Nat → Nat} {id : Nat → Int} {k : Nat} (hq : Queue w V pr (m + 1) q id) (hk : k ≤ m)
    (hlev : w2.heap[V]? = some (.cells #[.int .i64 pr, .pointer (nx (del q k) m 0), .pointer (pv (del q k) m)] 63 (0, 0)))
    (hlo : ∀ i, i < k → w2.heap[q i]? = some (.cells (nodeC (id (q i)) (pv (del q k) i) (nx (del q k) m (i + 1))) 39 (0, 0)))
    (hhi : ∀ i, k ≤ i → i < m → w2.heap[q (i + 1)]? = some (.cells (nodeC (id (q (i + 1))) (pv (del q k) i) (nx (del q k) m (i + 1))) 39 (0, 0)))
    (hO : w2.heap[q k]? = w.heap[q k]?) (os : w2.os = w.os) (tape : w2.tape = w.tape) (output : w2.output = w.output) (size : w2.heap.size = w.heap.size)
    (rest : ∀ b, b ≠ V → (∀ i, i < m + 1 → b ≠ q i) → w2.heap[b]? = w.heap[b]?) :
    Removed w ((w2.setCell ⟨q k, 15, none⟩ (.pointer none)).setCell ⟨q k, 16, none⟩ (.pointer none)) V pr m q id k := by
  have hn := hq.nod k (by omega)
  have hoff := hq.off (i := k) (by omega)
  have other : ∀ c, c ≠ q k → ((w2.setCell ⟨q k, 15, none⟩ (.pointer none)).setCell ⟨q k, 16, none⟩ (.pointer none)).heap[c]? = w2.heap[c]? := fun c hc => by
    rw [sc_ne _ _ _ _ _ hc, sc_ne _ _ _ _ _ hc]
  refine ⟨⟨?_, ?_, ?_⟩, ?_, os, tape, output, by simpa [World.setCell] using size, ?_⟩
  · rw [other V (fun e => hoff e.symm)]
    exact hlev
  · intro i hi
    by_cases h : i < k
    · have e : del q k i = q i := if_pos h
      rw [e, other _ (fun e => by have := hq.inj _ _ (by omega) (by omega) e; omega)]
      exact hlo i h
    · have e : del q k i = q (i + 1) := if_neg h
      rw [e, other _ (fun e => by have := hq.inj _ _ (by omega) (by omega) e; omega)]
      exact hhi i (by omega) hi
  · intro i j hi hj e
    unfold del at e
    split at e <;> split at e <;> (have := hq.inj _ _ (by omega) (by omega) e; omega)
  · rw [hn] at hO
    rw [sc_eq _ _ _ _ _ _ (sc_eq _ _ _ _ _ _ hO), set_pv, set_nx]
  · intro b hb hbq
    rw [other b (hbq k (by omega))]
    exact rest b hb hbq

theorem removed_only {w : World} {V : Nat} {pr : Int} {q : Nat → Nat} {id : Nat → Int} (hq : Queue w V pr 1 q id) :
    Removed w ((((w.setCell ⟨V, 1, none⟩ (.pointer none)).setCell ⟨V, 2, none⟩ (.pointer none)).setCell ⟨q 0, 15, none⟩ (.pointer none)).setCell ⟨q 0, 16, none⟩ (.pointer none)) V pr 0 q id 0 := by
  refine removed_of (k := 0) hq (Nat.le_refl _) ?_ (fun i hi => by omega) (fun i _ hi => by omega) ?_ rfl rfl rfl (by simp [World.setCell]) ?_
  · rw [sc_eq _ _ _ _ _ _ (sc_eq _ _ _ _ _ _ hq.lev)]
    rfl
  · rw [sc_ne _ _ _ _ _ (hq.off (by omega)), sc_ne _ _ _ _ _ (hq.off (by omega))]
  · intro b hb _
    rw [sc_ne _ _ _ _ _ hb, sc_ne _ _ _ _ _ hb]

theorem removed_first {w : World} {V : Nat} {pr : Int} {m : Nat} {q : Nat → Nat} {id : Nat → Int} (hm : 0 < m) (hq : Queue w V pr (m + 1) q id) :
    Removed w ((((w.setCell ⟨V, 1, none⟩ (.pointer (some ⟨q 1, 0, none⟩))).setCell ⟨q 1, 15, none⟩ (.pointer none)).setCell ⟨q 0, 15, none⟩ (.pointer none)).setCell ⟨q 0, 16, none⟩ (.pointer none)) V pr m q id 0 := by
  have h1 := hq.off (i := 1) (by omega)
  refine removed_of (k := 0) hq (by omega) ?_ (fun i hi => by omega) ?_ ?_ rfl rfl rfl (by simp [World.setCell]) ?_
  · rw [sc_ne _ _ _ _ _ h1.symm, sc_eq _ _ _ _ _ _ hq.lev, nx_del (by omega), pv_del, if_neg (by omega), if_neg (by omega), nx_lt (q := q) (n := m + 1) (i := 0 + 1) (by omega)]
    rfl
  · intro i _ hi
    rw [nx_del (by omega), pv_del, if_neg (by omega : ¬ i + 1 < 0)]
    by_cases e : i = 0
    · subst e
      have hn := hq.nod 1 (by omega)
      rw [← sc_ne w V 1 (.pointer (some ⟨q 1, 0, none⟩)) _ h1] at hn
      rw [sc_eq _ _ _ _ _ _ hn, set_pv]
      rfl
    · rw [sc_ne _ _ _ _ _ (fun e => by have := hq.inj _ _ (by omega) (by omega) e; omega), sc_ne _ _ _ _ _ (hq.off (by omega)), if_neg (by omega)]
      exact hq.nod (i + 1) (by omega)
  · rw [sc_ne _ _ _ _ _ (fun e => by have := hq.inj _ _ (by omega) (by omega) e; omega), sc_ne _ _ _ _ _ (hq.off (by omega))]
  · intro b hb hbq
    rw [sc_ne _ _ _ _ _ (hbq 1 (by omega)), sc_ne _ _ _ _ _ hb]

theorem removed_last {w : World} {V : Nat} {pr : Int} {m : Nat} {q : Nat → Nat} {id : Nat → Int} (hq : Queue w V pr (m + 1 + 1) q id) :
    Removed w ((((w.setCell ⟨q m, 16, none⟩ (.pointer none)).setCell ⟨V, 2, none⟩ (.pointer (some ⟨q m, 0, none⟩))).setCell ⟨q (m + 1), 15, none⟩ (.pointer none)).setCell ⟨q (m + 1), 16, none⟩ (.pointer none)) V pr (m + 1) q id (m + 1) := by
  have h1 := hq.off (i := m) (by omega)
  refine removed_of (k := m + 1) hq (by omega) ?_ ?_ (fun i _ _ => by omega) ?_ rfl rfl rfl (by simp [World.setCell]) ?_
  · have hl := hq.lev
    rw [← sc_ne w (q m) 16 (.pointer none) V h1.symm] at hl
    rw [sc_eq _ _ _ _ _ _ hl, nx_del (by omega), pv_del, if_pos (by omega), if_pos (by omega), pv_succ]
    rfl
  · intro i hi
    rw [nx_del (by omega), pv_del, if_pos (by omega : i ≤ m + 1)]
    by_cases e : i = m
    · subst e
      rw [sc_ne _ _ _ _ _ h1, sc_eq _ _ _ _ _ _ (hq.nod i (by omega)), set_nx, if_neg (by omega), nx_ge (by omega)]
    · rw [sc_ne _ _ _ _ _ (hq.off (by omega)), sc_ne _ _ _ _ _ (fun e => by have := hq.inj _ _ (by omega) (by omega) e; omega), if_pos (by omega)]
      exact hq.nod i (by omega)
  · rw [sc_ne _ _ _ _ _ (hq.off (by omega)), sc_ne _ _ _ _ _ (fun e => by have := hq.inj _ _ (by omega) (by omega) e; omega)]
  · intro b hb hbq
    rw [sc_ne _ _ _ _ _ hb, sc_ne _ _ _ _ _ (hbq m (by omega))]

theorem removed_mid {w : World} {V : Nat} {pr : Int} {m k : Nat} {q : Nat → Nat} {id : Nat → Int} (hk : k + 1 < m) (hq : Queue w V pr (m + 1) q id) :
    Removed w ((((w.setCell ⟨q k, 16, none⟩ (.pointer (some ⟨q (k + 1 + 1), 0, none⟩))).setCell ⟨q (k + 1 + 1), 15, none⟩ (.pointer (some ⟨q k, 0, none⟩))).setCell ⟨q (k + 1), 15, none⟩ (.pointer none)).setCell ⟨q (k + 1), 16, none⟩ (.pointer none)) V pr m q id (k + 1) := by
  have h1 := hq.off (i := k) (by omega)
  have h2 := hq.off (i := k + 1 + 1) (by omega)
  have h12 : q k ≠ q (k + 1 + 1) := fun e => by have := hq.inj _ _ (by omega) (by omega) e; omega
  refine removed_of (k := k + 1) hq (by omega) ?_ ?_ ?_ ?_ rfl rfl rfl (by simp [World.setCell]) ?_
  · rw [sc_ne _ _ _ _ _ h2.symm, sc_ne _ _ _ _ _ h1.symm, hq.lev, nx_del (by omega), pv_del, if_pos (by omega), if_neg (by omega)]
  · intro i hi
    rw [nx_del (by omega), pv_del, if_pos (by omega : i ≤ k + 1), sc_ne _ _ _ _ _ (fun e => by have := hq.inj _ _ (by omega) (by omega) e; omega)]
    by_cases e : i = k
    · subst e
      rw [sc_eq _ _ _ _ _ _ (hq.nod i (by omega)), set_nx, if_neg (by omega), nx_lt (by omega)]
    · rw [sc_ne _ _ _ _ _ (fun e => by have := hq.inj _ _ (by omega) (by omega) e; omega), if_pos (by omega)]
      exact hq.nod i (by omega)
  · intro i hki hi
    rw [nx_del (by omega), pv_del, if_neg (by omega : ¬ i + 1 < k + 1)]
    by_cases e : i = k + 1
    · subst e
      have hn := hq.nod (k + 1 + 1) (by omega)
      rw [← sc_ne w (q k) 16 (.pointer (some ⟨q (k + 1 + 1), 0, none⟩)) _ h12.symm] at hn
      rw [sc_eq _ _ _ _ _ _ hn, set_pv, if_pos (by omega), pv_succ]
    · rw [sc_ne _ _ _ _ _ (fun e => by have := hq.inj _ _ (by omega) (by omega) e; omega), sc_ne _ _ _ _ _ (fun e => by have := hq.inj _ _ (by omega) (by omega) e; omega), if_neg (by omega)]
      exact hq.nod (i + 1) (by omega)
  · rw [sc_ne _ _ _ _ _ (fun e => by have := hq.inj _ _ (by omega) (by omega) e; omega), sc_ne _ _ _ _ _ (fun e => by have := hq.inj _ _ (by omega) (by omega) e; omega)]
  · intro b hb hbq
    rw [sc_ne _ _ _ _ _ (hbq _ (by omega)), sc_ne _ _ _ _ _ (hbq k (by omega))]

end Go.Proofs.Qxb6601723a
