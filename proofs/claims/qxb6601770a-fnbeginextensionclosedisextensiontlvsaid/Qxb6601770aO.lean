import Derived.Test.Qxb6601770aH
namespace Go.Proofs.Qxb6601770a
open Go.RowKit
set_option linter.unusedVariables false

section
variable {P : Program} (w : World)

/-- What append leaves; and where the new slice lies: in the old row, or in a new block. -/
def AppendedF (P : Program) (w : World) (t tx ty e base : Nat) (v x : Value) (n m : Nat) (xs news : List Value) : Prop :=
  ∃ ao cap w', (Builtin.append_ #[t, tx] ty #[v, x]).run P w = .ok (.slice ao (n + m) cap) w' ∧ w'.ownsRow base e 1 (.slice ao (n + m) cap) (n + m) (xs ++ news) ∧ w.grownBy w' v.ownBlock ∧
    ∀ k, (Value.slice ao (n + m) cap).ownBlock = some k → v.ownBlock = some k ∨ w.heap.size ≤ k

theorem append_srcF (t tx ty e base : TypeId) (i : TypeInfo) (z : Value) (ht : P.underlying t = some (.slice e)) (hi : P.info? e = some i) (hz : i.zero = some z) (hsize : i.size = 1) (hby : i.bytes = 1) (hzc : z.cells = #[z])
    (v : Value) (n : Nat) (xs : List Value) (hown : w.ownsRow base e 1 v n xs) (x : Value) (m : Nat) (news : List Value) (hs : Src P 1 tx x m news w)
    (hb : n + m ≤ 140737488355328) (hbase : base ≤ w.heap.size) : AppendedF P w t tx ty e base v x n m xs news := by
  have hxl : xs.length = n := by simpa using hown.1
  have hnl : news.length = m := by simpa using hs.newsLen
  have h63 : n + m ≤ maxLen := by unfold maxLen; omega
  have hs' : Src P i.size tx x m news w := by rw [hsize]; exact hs
  rcases hown.2 with ⟨rfl, rfl⟩ | ⟨g, cap, cur, rfl, hbg, hg, hnc, hcm, hcs, htake⟩
  · obtain rfl : xs = [] := List.eq_nil_of_length_eq_zero hxl
    by_cases hm : m = 0
    · subst hm
      obtain rfl : news = [] := List.eq_nil_of_length_eq_zero hnl
      refine ⟨none, 0, w, ?_, World.ownsRow_nil w base e 1, ⟨rfl, rfl, rfl, Nat.le_refl _, fun _ _ _ => rfl⟩, fun k hk => by simp [Value.ownBlock] at hk⟩
      rcases hs'.kind with ⟨e', hk⟩ | hk <;> simp [Builtin.append_, run_underlying ht, run_underlying hk, sizeOf, typeInfo, hi, hs'.len, hs'.cells]
    · have hr := run_append_grow_src (P := P) w t tx ty e i z ht hi hz none 0 0 [] (by simp [Builtin.firstCells]) x m news hs' (by omega) (by omega) (growslice_fits (by omega) (by rw [hby]; omega))
      have hg := owns_grown (e := e) (xs := []) (old := 0) w hzc rfl hnl h63 hbase (Value.ownBlock (.slice none 0 0))
      exact ⟨_, _, _, hr, hg.1, hg.2, fun k hk => .inr (by simp [Value.ownBlock] at hk; omega)⟩
  · simp only [Nat.mul_one] at htake hcs
    by_cases hroom : n + m ≤ cap
    · have hst := run_storeCells_at P g (n * i.size) e news 0 cur w hg (by rw [hsize]; omega) hs.one
      simp only [Nat.add_zero] at hst
      have hr : (Builtin.append_ #[t, tx] ty #[.slice (some ⟨g, 0, none⟩) n cap, x]).run P w = .ok (.slice (some ⟨g, 0, none⟩) (n + m) cap) (w.setRow g (cur.toList.take n ++ news ++ cur.toList.drop (n + news.length)).toArray) := by
        rw [hsize, Nat.mul_one] at hst
        rcases hs'.kind with ⟨e', hk⟩ | hk <;> simp [Builtin.append_, run_underlying ht, run_underlying hk, sizeOf, typeInfo, hi, hs.len, hsize, hroom, hs.cells, Addr.add_lit, hst]
      have ho := owns_room (base := base) (xs := xs) w hxl hnl hbg hg hroom hcm (by omega) htake
      exact ⟨_, _, _, hr, ho.1, ho.2, fun k hk => .inl hk⟩
    · have holds : ∀ j u, xs[j]? = some u → w.drew.cell? ((⟨g, 0, none⟩ : Addr).add j) = some u := hown.cells (g := g) rfl
      have hr := run_append_grow_src (P := P) w t tx ty e i z ht hi hz (some ⟨g, 0, none⟩) n cap xs (by rw [hsize]; exact run_firstCells_some (P := P) w.drew 1 n ⟨g, 0, none⟩ n cap xs (by omega) holds) x m news hs' (by omega) (by unfold maxLen at h63; omega) (growslice_fits (by omega) (by rw [hby]; omega))
      have hg := owns_grown (e := e) (xs := xs) (old := cap) w hzc hxl hnl h63 hbase (Value.ownBlock (.slice (some ⟨g, 0, none⟩) n cap))
      exact ⟨_, _, _, hr, hg.1, hg.2, fun k hk => .inr (by simp [Value.ownBlock] at hk; omega)⟩

/-- 'append(b, make([]byte, m)...)': m zeros. -/
theorem append_zerosF (t tx ty e base : TypeId) (k0 : IntKind) (i : TypeInfo) (z : Value) (ht : P.underlying t = some (.slice e)) (htx : P.underlying tx = some (.int k0)) (hi : P.info? e = some i) (hz : i.zero = some z) (hsize : i.size = 1) (hby : i.bytes = 1) (hzc : z.cells = #[z]) (hz1 : z.oneCell' = true)
    (g n cap : Nat) (xs : List Value) (hown : w.ownsRow base e 1 (.slice (some ⟨g, 0, none⟩) n cap) n xs) (m : Nat) (hm : 0 < m)
    (hb : n + m ≤ 140737488355328) (hbase : base ≤ w.heap.size) : AppendedF P w t tx ty e base (.slice (some ⟨g, 0, none⟩) n cap) (.int .i64 (m : Int)) n m xs (List.replicate m z) := by
  have hxl : xs.length = n := by simpa using hown.1
  have h63 : n + m ≤ maxLen := by unfold maxLen; omega
  have wm : IntKind.i64.wrap (m : Int) = (m : Int) := by rw [IntKind.wrap_i64]; omega
  have n1 : ¬ ((m : Int) < 0) := by omega
  have n2 : ¬ (281474976710656 < (m : Int)) := by omega
  have n3 : ¬ (m = 0) := by omega
  have hzl : Builtin.zeroCells z.cells m = (List.replicate m z).toArray := by
    apply Array.ext'
    rw [hzc]
    simp [Builtin.zeroCells]
    apply List.ext_getElem
    · simp
    · intro i h1 h2
      simp [Nat.mod_one]
  rcases hown.2 with ⟨h, _⟩ | ⟨g', cap', cur, h, hbg, hg, hnc, hcm, hcs, htake⟩
  · simp at h
  · simp only [Value.slice.injEq, Option.some.injEq, Addr.mk.injEq, and_true, true_and] at h
    obtain ⟨rfl, rfl⟩ := h
    simp only [Nat.mul_one] at htake hcs
    by_cases hroom : n + m ≤ cap
    · have hst := run_storeCells_at P g n e (List.replicate m z) 0 cur w hg (by simp; omega) (by intro u hu; rw [List.eq_of_mem_replicate hu]; exact hz1)
      simp only [Nat.add_zero] at hst
      have hr : (Builtin.append_ #[t, tx] ty #[.slice (some ⟨g, 0, none⟩) n cap, .int .i64 (m : Int)]).run P w = .ok (.slice (some ⟨g, 0, none⟩) (n + m) cap) (w.setRow g (cur.toList.take n ++ List.replicate m z ++ cur.toList.drop (n + (List.replicate m z).length)).toArray) := by
        simp [Builtin.append_, run_underlying ht, run_underlying htx, sizeOf, typeInfo, hi, hsize, hby, hroom, asInt, asIntOf, wm, n1, n2, n3, zeroValue, hz, hzl, Addr.add_lit, hst]
      have ho := owns_room (base := base) (xs := xs) (news := List.replicate m z) w hxl (List.length_replicate ..) hbg hg hroom hcm (by omega) htake
      exact ⟨_, _, _, hr, ho.1, ho.2, fun k hk => .inl hk⟩
    · have holds : ∀ j u, xs[j]? = some u → w.drew.cell? ((⟨g, 0, none⟩ : Addr).add j) = some u := hown.cells (g := g) rfl
      have hold := run_firstCells_some (P := P) w.drew 1 n ⟨g, 0, none⟩ n cap xs (by omega) holds
      have hn : ¬ (n + m ≤ cap) := by omega
      have h63' : ¬ (9223372036854775807 < ((n : Int) + (m : Int))) := by omega
      have hfit := growslice_fits (need := n + m) (old := cap) (bytes := 1) (by omega) (by omega)
      have h48' : ¬ (281474976710656 < Builtin.nextslicecap (n + m) cap) := by omega
      have hr : (Builtin.append_ #[t, tx] ty #[.slice (some ⟨g, 0, none⟩) n cap, .int .i64 (m : Int)]).run P w =
          .ok (.slice (some ⟨w.heap.size, 0, none⟩) (n + m) (grownCap w (n + m) cap e)) (w.drew.alloc (.cells ((xs ++ List.replicate m z).toArray ++ Builtin.zeroCells z.cells (grownCap w (n + m) cap e - (n + m))) e)) := by
        simp [Builtin.append_, run_underlying ht, run_underlying htx, sizeOf, typeInfo, hi, hsize, hby, hn, h63', h48', asInt, asIntOf, wm, n1, n2, n3, zeroValue, hz, hzl, Question.forced, hold, newRow, grownCap]
        congr 2
        apply Array.ext'
        simp [List.append_assoc]
      have hg := owns_grown (e := e) (xs := xs) (news := List.replicate m z) (old := cap) w hzc hxl (List.length_replicate ..) h63 hbase (Value.ownBlock (.slice (some ⟨g, 0, none⟩) n cap))
      exact ⟨_, _, _, hr, hg.1, hg.2, fun k hk => .inr (by simp [Value.ownBlock] at hk; omega)⟩

/-- The law for the walk. -/
theorem wpList_appendedF {ops : Array Oper} {rest : List Oper} {o : Oper} {a : Act} {Q : Exit → Act → World → Prop} (hgd : o.guard = none) (s x : Operand) (t tx : TypeId)
    (ho : o.op = .call { callee := .builtin .append, args := #[s, x], argTypes := #[t, tx] }) (e base : Nat) (v xv : Value) (n m N : Nat) (hN : n + m = N) (xs news : List Value) (hs : a.eval s = v) (hx : a.eval x = xv)
    (hap : ∀ ty, AppendedF P w t tx ty e base v xv n m xs news)
    (h : ∀ ao cap w', w'.ownsRow base e 1 (.slice ao N cap) N (xs ++ news) → w.grownBy w' v.ownBlock → (∀ k, (Value.slice ao N cap).ownBlock = some k → v.ownBlock = some k ∨ w.heap.size ≤ k) → wpList P ops Q rest (a.put o.dst (.slice ao N cap)) w') : wpList P ops Q (o :: rest) a w := by
  subst hN
  refine wpList_plain hgd fun K hK => ?_
  obtain ⟨ao, cap, w', hr, h1, h2, h3⟩ := hap o.type
  unfold Oper.wp execOp
  simp only [ho, resolve, invoke, builtin, Sem.run_bind, Sem.run_pure, Result.andThen_ok, List.map_toArray, List.map_cons, List.map_nil, hs, hx, hr]
  exact hK _ _ (h ao cap w' h1 h2 h3)

end

theorem app_rdF {w : World} {t tx ty base n m c : Nat} {v : Value} {la : List Int} {a : Option Addr} {lb : List Int} (ht : Try.prog.underlying t = some (.slice 5)) (htx : Try.prog.underlying tx = some (.slice 5))
    (hown : w.ownsRow base 5 1 v n (U la)) (h : Rd w a lb) (hl : lb.length = m) (hn : a = none → m = 0) (hb : n + m ≤ 140737488355328) (hbase : base ≤ w.heap.size) :
    AppendedF Try.prog w t tx ty 5 base v (.slice a m c) n m (U la) (U lb) := by
  obtain ⟨i0, hi0, hz0, hz1, hz2⟩ := info_parts info5
  exact append_srcF w t tx ty 5 base i0 (.int .u8 0) ht hi0 hz0 hz1 hz2 rfl v n (U la) hown _ m (U lb) (src_rd htx h hl hn) hb hbase

theorem app_zerosF {w : World} {ty base n g cap : Nat} {l : List Int} (k : Nat) (hk : 0 < k) (hown : w.ownsRow base 5 1 (.slice (some ⟨g, 0, none⟩) n cap) n (U l)) (hb : n + k ≤ 140737488355328) (hbase : base ≤ w.heap.size) :
    AppendedF Try.prog w 39 3 ty 5 base (.slice (some ⟨g, 0, none⟩) n cap) (.int .i64 (k : Int)) n k (U l) (U (List.replicate k 0)) := by
  obtain ⟨i0, hi0, hz0, hz1, hz2⟩ := info_parts info5
  have := append_zerosF (P := Try.prog) w 39 3 ty 5 base .i64 i0 (.int .u8 0) Try.underlying39 Try.underlying3 hi0 hz0 hz1 hz2 rfl rfl g n cap (U l) hown k hk hb hbase
  simpa [U] using this

/-- Nothing below 'base' has changed; of what was there only block D and the slice's own row may have. -/
structure Bw (base D : Nat) (v : Value) (w w' : World) : Prop where
  bel : Below base w w'
  keep : ∀ b, b < w.heap.size → b ≠ D → some b ≠ v.ownBlock → w'.heap[b]? = w.heap[b]?

/-- The new slice lies in the old row or in a new block. -/
def Fr (w : World) (v v' : Value) : Prop := ∀ k, v'.ownBlock = some k → v.ownBlock = some k ∨ w.heap.size ≤ k

section
variable {base D : Nat} {v v' v'' : Value} {w w1 w2 : World}

theorem Bw.refl (base D : Nat) (v : Value) (w : World) : Bw base D v w w := ⟨Below.refl _ _, fun _ _ _ _ => rfl⟩
theorem Fr.refl (w : World) (v : Value) : Fr w v v := fun _ h => .inl h

theorem Bw.drew (h : Bw base D v w w1) : Bw base D v w w1.drew := ⟨h.bel.drew, h.keep⟩
theorem Bw.drewN (h : Bw base D v w w1) (k : Nat) : Bw base D v w (w1.drewN k) := ⟨below_drewN h.bel k, h.keep⟩

theorem Bw.alloc (h : Bw base D v w w1) (hb : base ≤ w.heap.size) (o : Obj) : Bw base D v w (w1.alloc o) :=
  ⟨h.bel.alloc (Nat.le_trans hb h.bel.size) o, fun b hb' h1 h2 => (Below.heap_alloc _ _ _ (Nat.lt_of_lt_of_le hb' h.bel.size)).trans (h.keep b hb' h1 h2)⟩

theorem Bw.setD (h : Bw base D v w w1) (hD : base ≤ D) (u : Value) : Bw base D v w (w1.setCell ⟨D, 0, none⟩ u) :=
  ⟨h.bel.setCell hD u, fun b hb h1 h2 => (Below.heap_setCell _ _ _ _ h1).trans (h.keep b hb h1 h2)⟩

/-- A store into the slice's row. -/
theorem Bw.setCell (h : Bw base D v w w1) {g j : Nat} (hg : base ≤ g) (hf : v.ownBlock = some g ∨ w.heap.size ≤ g) (u : Value) : Bw base D v w (w1.setCell ⟨g, j, none⟩ u) := by
  refine ⟨h.bel.setCell hg u, fun b hb h1 h2 => ?_⟩
  rw [Below.heap_setCell _ _ _ _ (fun e => ?_)]
  · exact h.keep b hb h1 h2
  · simp at e
    subst e
    rcases hf with hf | hf
    · exact h2 hf.symm
    · omega

theorem Bw.setRow (h : Bw base D v w w1) {g : Nat} (hg : base ≤ g) (hf : v.ownBlock = some g ∨ w.heap.size ≤ g) (cs : Array Value) : Bw base D v w (w1.setRow g cs) := by
  refine ⟨below_setRow h.bel hg cs, fun b hb h1 h2 => ?_⟩
  rw [setRow_other w1 g b cs (fun e => ?_)]
  · exact h.keep b hb h1 h2
  · subst e
    rcases hf with hf | hf
    · exact h2 hf.symm
    · omega

/-- Behind an append onto the slice itself. -/
theorem Bw.grown {n : Nat} {xs : List Value} (h : Bw base D v w w1) (hown : w1.ownsRow base 5 1 v n xs) (hg : w1.grownBy w2 v.ownBlock) (hb : base ≤ w1.heap.size) : Bw base D v w w2 :=
  ⟨below_grown h.bel hown hg (Nat.le_refl _) hb, fun b hb' h1 h2 => (hg.block b (Nat.lt_of_lt_of_le hb' h.bel.size) h2).trans (h.keep b hb' h1 h2)⟩

theorem Bw.trans (h : Bw base D v w w1) (hf : Fr w v v') (k : Bw base D v' w1 w2) : Bw base D v w w2 := by
  refine ⟨h.bel.trans k.bel, fun b hb h1 h2 => ?_⟩
  rw [k.keep b (Nat.lt_of_lt_of_le hb h.bel.size) h1 (fun e => ?_)]
  · exact h.keep b hb h1 h2
  · rcases hf b e.symm with e' | e'
    · exact h2 e'.symm
    · omega

theorem Fr.trans (hs : w.heap.size ≤ w1.heap.size) (h : Fr w v v') (k : Fr w1 v' v'') : Fr w v v'' := by
  intro b hb
  rcases k b hb with e | e
  · exact h b e
  · exact .inr (Nat.le_trans hs e)
end

end Go.Proofs.Qxb6601770a
