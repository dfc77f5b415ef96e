import Derived.Test.Qxb6601770aProg
import Derived.WalkKit
import Derived.ProofKit
import Derived.WalkSpells
import Derived.WalkLawsBesides
import Derived.Deep.OwnRows
import Derived.Deep.LoopGhost
import Derived.Deep.AppendSrc
import Derived.Lib.SliceRun
import Derived.Deep.QuietTactic
import Derived.BigQuiet
import Derived.Deep.RegionHeld3
import Derived.Laws.CopyOwn
namespace Go.Proofs.Qxb6601770a
open Go.RowKit
set_option linter.unusedVariables false

/-! ### append, of whatever source, onto a slice of the call's own -/
section
variable {P : Program} (w : World)

/-- What append leaves. -/
def Appended (P : Program) (w : World) (t tx ty e base : Nat) (v x : Value) (n m : Nat) (xs news : List Value) : Prop :=
  ∃ ao cap w', (Builtin.append_ #[t, tx] ty #[v, x]).run P w = .ok (.slice ao (n + m) cap) w' ∧ w'.ownsRow base e 1 (.slice ao (n + m) cap) (n + m) (xs ++ news) ∧ w.grownBy w' v.ownBlock

theorem owns_grown {base e n m old : Nat} {z : Value} {xs news : List Value} (hz : z.cells = #[z]) (hx : xs.length = n) (hn : news.length = m) (h63 : n + m ≤ maxLen) (hbase : base ≤ w.heap.size) (row : Option Nat) :
    (w.drew.alloc (.cells ((xs ++ news).toArray ++ Builtin.zeroCells z.cells (grownCap w (n + m) old e - (n + m))) e)).ownsRow base e 1 (.slice (some ⟨w.heap.size, 0, none⟩) (n + m) (grownCap w (n + m) old e)) (n + m) (xs ++ news) ∧
    w.grownBy (w.drew.alloc (.cells ((xs ++ news).toArray ++ Builtin.zeroCells z.cells (grownCap w (n + m) old e - (n + m))) e)) row := by
  have hge := grownCap_ge w (n + m) old e
  have hcm : grownCap w (n + m) old e ≤ maxLen := grownCap_le_maxLen w (n + m) old e h63
  refine ⟨⟨by simp [hx, hn], .inr ⟨w.heap.size, _, _, rfl, hbase, heap_alloc_new w.drew _, hge, hcm, ?_, ?_⟩⟩, ⟨rfl, rfl, rfl, by simp, fun k hk _ => Below.heap_alloc w.drew _ k hk⟩⟩
  · simp only [Array.size_append, List.size_toArray, size_zeroCells, hz, List.length_append, hx, hn]
    simp
    omega
  · rw [Array.toList_append]
    exact List.take_left' (by simp [hx, hn])

theorem owns_room {base e n m g cap : Nat} {cur : Array Value} {xs news : List Value} (hx : xs.length = n) (hn : news.length = m) (hbg : base ≤ g) (hg : w.heap[g]? = some (.cells cur e (0, 0))) (hroom : n + m ≤ cap) (hcm : cap ≤ maxLen) (hcs : cur.size = cap) (htake : cur.toList.take n = xs) :
    (w.setRow g (cur.toList.take n ++ news ++ cur.toList.drop (n + news.length)).toArray).ownsRow base e 1 (.slice (some ⟨g, 0, none⟩) (n + m) cap) (n + m) (xs ++ news) ∧
    w.grownBy (w.setRow g (cur.toList.take n ++ news ++ cur.toList.drop (n + news.length)).toArray) (some g) := by
  refine ⟨⟨by simp [hx, hn], .inr ⟨g, cap, _, rfl, hbg, setRow_heap w g cur _ e _ hg, hroom, hcm, ?_, ?_⟩⟩, ⟨rfl, rfl, rfl, by simp, fun k _ hk => setRow_other w g k _ (fun e => hk (by simp [e]))⟩⟩
  · simp only [List.size_toArray, List.length_append, List.length_take, List.length_drop, Array.length_toList]
    omega
  · rw [htake]
    exact List.take_left' (by simp [hx, hn])

theorem append_src (t tx ty e base : TypeId) (i : TypeInfo) (z : Value) (ht : P.underlying t = some (.slice e)) (hi : P.info? e = some i) (hz : i.zero = some z) (hsize : i.size = 1) (hby : i.bytes = 1) (hzc : z.cells = #[z])
    (v : Value) (n : Nat) (xs : List Value) (hown : w.ownsRow base e 1 v n xs) (x : Value) (m : Nat) (news : List Value) (hs : Src P 1 tx x m news w)
    (hb : n + m ≤ 140737488355328) (hbase : base ≤ w.heap.size) : Appended P w t tx ty e base v x n m xs news := by
  have hxl : xs.length = n := by simpa using hown.1
  have hnl : news.length = m := by simpa using hs.newsLen
  have h63 : n + m ≤ maxLen := by unfold maxLen; omega
  have hs' : Src P i.size tx x m news w := by rw [hsize]; exact hs
  rcases hown.2 with ⟨rfl, rfl⟩ | ⟨g, cap, cur, rfl, hbg, hg, hnc, hcm, hcs, htake⟩
  · obtain rfl : xs = [] := List.eq_nil_of_length_eq_zero hxl
    by_cases hm : m = 0
    · subst hm
      obtain rfl : news = [] := List.eq_nil_of_length_eq_zero hnl
      refine ⟨none, 0, w, ?_, World.ownsRow_nil w base e 1, ⟨rfl, rfl, rfl, Nat.le_refl _, fun _ _ _ => rfl⟩⟩
      rcases hs'.kind with ⟨e', hk⟩ | hk <;> simp [Builtin.append_, run_underlying ht, run_underlying hk, sizeOf, typeInfo, hi, hs'.len, hs'.cells]
    · have hr := run_append_grow_src (P := P) w t tx ty e i z ht hi hz none 0 0 [] (by simp [Builtin.firstCells]) x m news hs' (by omega) (by omega) (growslice_fits (by omega) (by rw [hby]; omega))
      have hg := owns_grown (e := e) (xs := []) (old := 0) w hzc rfl hnl h63 hbase (Value.ownBlock (.slice none 0 0))
      exact ⟨_, _, _, hr, hg.1, hg.2⟩
  · simp only [Nat.mul_one] at htake hcs
    by_cases hroom : n + m ≤ cap
    · have hst := run_storeCells_at P g (n * i.size) e news 0 cur w hg (by rw [hsize]; omega) hs.one
      simp only [Nat.add_zero] at hst
      have hr : (Builtin.append_ #[t, tx] ty #[.slice (some ⟨g, 0, none⟩) n cap, x]).run P w = .ok (.slice (some ⟨g, 0, none⟩) (n + m) cap) (w.setRow g (cur.toList.take n ++ news ++ cur.toList.drop (n + news.length)).toArray) := by
        rw [hsize, Nat.mul_one] at hst
        rcases hs'.kind with ⟨e', hk⟩ | hk <;> simp [Builtin.append_, run_underlying ht, run_underlying hk, sizeOf, typeInfo, hi, hs.len, hsize, hroom, hs.cells, Addr.add_lit, hst]
      have ho := owns_room (base := base) (xs := xs) w hxl hnl hbg hg hroom hcm (by omega) htake
      exact ⟨_, _, _, hr, ho.1, ho.2⟩
    · have holds : ∀ j u, xs[j]? = some u → w.drew.cell? ((⟨g, 0, none⟩ : Addr).add j) = some u := hown.cells (g := g) rfl
      have hr := run_append_grow_src (P := P) w t tx ty e i z ht hi hz (some ⟨g, 0, none⟩) n cap xs (by rw [hsize]; exact run_firstCells_some (P := P) w.drew 1 n ⟨g, 0, none⟩ n cap xs (by omega) holds) x m news hs' (by omega) (by unfold maxLen at h63; omega) (growslice_fits (by omega) (by rw [hby]; omega))
      have hg := owns_grown (e := e) (xs := xs) (old := cap) w hzc hxl hnl h63 hbase (Value.ownBlock (.slice (some ⟨g, 0, none⟩) n cap))
      exact ⟨_, _, _, hr, hg.1, hg.2⟩

/-- 'append(b, make([]byte, m)...)': m zeros. -/
theorem append_zeros (t tx ty e base : TypeId) (k0 : IntKind) (i : TypeInfo) (z : Value) (ht : P.underlying t = some (.slice e)) (htx : P.underlying tx = some (.int k0)) (hi : P.info? e = some i) (hz : i.zero = some z) (hsize : i.size = 1) (hby : i.bytes = 1) (hzc : z.cells = #[z]) (hz1 : z.oneCell' = true)
    (g n cap : Nat) (xs : List Value) (hown : w.ownsRow base e 1 (.slice (some ⟨g, 0, none⟩) n cap) n xs) (m : Nat) (hm : 0 < m)
    (hb : n + m ≤ 140737488355328) (hbase : base ≤ w.heap.size) : Appended P w t tx ty e base (.slice (some ⟨g, 0, none⟩) n cap) (.int .i64 (m : Int)) n m xs (List.replicate m z) := by
  have hxl : xs.length = n := by simpa using hown.1
  have h63 : n + m ≤ maxLen := by unfold maxLen; omega
  have wm : IntKind.i64.wrap (m : Int) = (m : Int) := by rw [IntKind.wrap_i64]; omega
  have n1 : ¬ ((m : Int) < 0) := by omega
  have n2 : ¬ (281474976710656 < (m : Int)) := by omega
  have n3 : ¬ (m = 0) := by omega
  have hzl : Builtin.zeroCells z.cells m = (List.replicate m z).toArray := by
    apply Array.ext'
    rw [hzc]
    simp [Builtin.zeroCells]
    apply List.ext_getElem
    · simp
    · intro i h1 h2
      simp [Nat.mod_one]
  rcases hown.2 with ⟨h, _⟩ | ⟨g', cap', cur, h, hbg, hg, hnc, hcm, hcs, htake⟩
  · simp at h
  · simp only [Value.slice.injEq, Option.some.injEq, Addr.mk.injEq, and_true, true_and] at h
    obtain ⟨rfl, rfl⟩ := h
    simp only [Nat.mul_one] at htake hcs
    by_cases hroom : n + m ≤ cap
    · have hst := run_storeCells_at P g n e (List.replicate m z) 0 cur w hg (by simp; omega) (by intro u hu; rw [List.eq_of_mem_replicate hu]; exact hz1)
      simp only [Nat.add_zero] at hst
      have hr : (Builtin.append_ #[t, tx] ty #[.slice (some ⟨g, 0, none⟩) n cap, .int .i64 (m : Int)]).run P w = .ok (.slice (some ⟨g, 0, none⟩) (n + m) cap) (w.setRow g (cur.toList.take n ++ List.replicate m z ++ cur.toList.drop (n + (List.replicate m z).length)).toArray) := by
        simp [Builtin.append_, run_underlying ht, run_underlying htx, sizeOf, typeInfo, hi, hsize, hby, hroom, asInt, asIntOf, wm, n1, n2, n3, zeroValue, hz, hzl, Addr.add_lit, hst]
      have ho := owns_room (base := base) (xs := xs) (news := List.replicate m z) w hxl (List.length_replicate ..) hbg hg hroom hcm (by omega) htake
      exact ⟨_, _, _, hr, ho.1, ho.2⟩
    · have holds : ∀ j u, xs[j]? = some u → w.drew.cell? ((⟨g, 0, none⟩ : Addr).add j) = some u := hown.cells (g := g) rfl
      have hold := run_firstCells_some (P := P) w.drew 1 n ⟨g, 0, none⟩ n cap xs (by omega) holds
      have hn : ¬ (n + m ≤ cap) := by omega
      have h63' : ¬ (9223372036854775807 < ((n : Int) + (m : Int))) := by omega
      have hfit := growslice_fits (need := n + m) (old := cap) (bytes := 1) (by omega) (by omega)
      have h48' : ¬ (281474976710656 < Builtin.nextslicecap (n + m) cap) := by omega
      have hr : (Builtin.append_ #[t, tx] ty #[.slice (some ⟨g, 0, none⟩) n cap, .int .i64 (m : Int)]).run P w =
          .ok (.slice (some ⟨w.heap.size, 0, none⟩) (n + m) (grownCap w (n + m) cap e)) (w.drew.alloc (.cells ((xs ++ List.replicate m z).toArray ++ Builtin.zeroCells z.cells (grownCap w (n + m) cap e - (n + m))) e)) := by
        simp [Builtin.append_, run_underlying ht, run_underlying htx, sizeOf, typeInfo, hi, hsize, hby, hn, h63', h48', asInt, asIntOf, wm, n1, n2, n3, zeroValue, hz, hzl, Question.forced, hold, newRow, grownCap]
        congr 2
        apply Array.ext'
        simp [List.append_assoc]
      have hg := owns_grown (e := e) (xs := xs) (news := List.replicate m z) (old := cap) w hzc hxl (List.length_replicate ..) h63 hbase (Value.ownBlock (.slice (some ⟨g, 0, none⟩) n cap))
      exact ⟨_, _, _, hr, hg.1, hg.2⟩

/-- The law for the walk. -/
theorem wpList_appended {ops : Array Oper} {rest : List Oper} {o : Oper} {a : Act} {Q : Exit → Act → World → Prop} (hgd : o.guard = none) (s x : Operand) (t tx : TypeId)
    (ho : o.op = .call { callee := .builtin .append, args := #[s, x], argTypes := #[t, tx] }) (e base : Nat) (v xv : Value) (n m N : Nat) (hN : n + m = N) (xs news : List Value) (hs : a.eval s = v) (hx : a.eval x = xv)
    (hap : ∀ ty, Appended P w t tx ty e base v xv n m xs news)
    (h : ∀ ao cap w', w'.ownsRow base e 1 (.slice ao N cap) N (xs ++ news) → w.grownBy w' v.ownBlock → wpList P ops Q rest (a.put o.dst (.slice ao N cap)) w') : wpList P ops Q (o :: rest) a w := by
  subst hN
  refine wpList_plain hgd fun K hK => ?_
  obtain ⟨ao, cap, w', hr, h1, h2⟩ := hap o.type
  unfold Oper.wp execOp
  simp only [ho, resolve, invoke, builtin, Sem.run_bind, Sem.run_pure, Result.andThen_ok, List.map_toArray, List.map_cons, List.map_nil, hs, hx, hr]
  exact hK _ _ (h ao cap w' h1 h2)

theorem below_grown {B base e n : Nat} {w w1 w2 : World} {v : Value} {xs : List Value} (hb : Below B w w1) (hown : w1.ownsRow base e 1 v n xs) (hg : w1.grownBy w2 v.ownBlock) (hB : B ≤ base) (hs : B ≤ w1.heap.size) : Below B w w2 :=
  hb.grown hg hs (fun k hk => Nat.le_trans hB (hown.lt k hk).1)

end
end Go.Proofs.Qxb6601770a
