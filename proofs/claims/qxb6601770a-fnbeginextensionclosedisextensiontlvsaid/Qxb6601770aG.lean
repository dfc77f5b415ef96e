import Derived.Test.Qxb6601770aF
namespace Go.Proofs.Qxb6601770a
open Go.RowKit
set_option linter.unusedVariables false

/-- append of k zeros onto a slice of the call's own. -/
theorem app_zeros {w : World} {ty base n g cap : Nat} {l : List Int} (k : Nat) (hk : 0 < k) (hown : w.ownsRow base 5 1 (.slice (some ⟨g, 0, none⟩) n cap) n (U l)) (hb : n + k ≤ 140737488355328) (hbase : base ≤ w.heap.size) :
    Appended Try.prog w 39 3 ty 5 base (.slice (some ⟨g, 0, none⟩) n cap) (.int .i64 (k : Int)) n k (U l) (U (List.replicate k 0)) := by
  obtain ⟨i0, hi0, hz0, hz1, hz2⟩ := info_parts info5
  have := append_zeros (P := Try.prog) w 39 3 ty 5 base .i64 i0 (.int .u8 0) Try.underlying39 Try.underlying3 hi0 hz0 hz1 hz2 rfl rfl g n cap (U l) hown k hk hb hbase
  simpa [U] using this

theorem owns_shape {w : World} {base N c : Nat} {ao : Option Addr} {xs : List Value} (h : w.ownsRow base 5 1 (.slice ao N c) N xs) (hN : 0 < N) :
    ∃ g cur, ao = some ⟨g, 0, none⟩ ∧ base ≤ g ∧ w.heap[g]? = some (.cells cur 5 (0, 0)) ∧ N ≤ c ∧ c ≤ maxLen ∧ cur.size = c ∧ cur.toList.take N = xs := by
  rcases h.2 with ⟨h', e⟩ | ⟨g, cap', cur, h', hb, hg, h1, h2, h3, h4⟩
  · omega
  · simp only [Value.slice.injEq] at h'
    obtain ⟨rfl, _, rfl⟩ := h'
    exact ⟨g, cur, rfl, hb, hg, h1, h2, by omega, by simpa using h4⟩

theorem set_mid (A X C : List Int) (a i : Nat) (v : Int) (ha : A.length = a) (hi : i < X.length) : (A ++ X ++ C).set (a + i) v = A ++ X.set i v ++ C := by
  subst ha
  rw [List.append_assoc, List.set_append_right _ _ (by omega), List.append_assoc, Nat.add_sub_cancel_left, List.set_append_left _ _ hi]

theorem Der.putMid {w : World} {D base N g cap : Nat} {A X C : List Int} (h : Der w D base (A ++ X ++ C) N (some ⟨g, 0, none⟩) cap) (hgD : g ≠ D) (a i j : Nat) (v : Int) (ha : A.length = a) (hi : i < X.length) (hj : j = a + i) :
    Der (w.setCell ⟨g, j, none⟩ (.int .u8 v)) D base (A ++ X.set i v ++ C) N (some ⟨g, 0, none⟩) cap := by
  subst hj
  have := h.put hgD (a + i) v
  rwa [set_mid A X C a i v ha hi] at this

/-- What the copy leaves: the contents moved up by k; k + 1 bytes ahead of them to be written. -/
theorem moved (l : List Int) (s k : Nat) (h1 : 1 ≤ s) (h2 : s ≤ l.length) : ∃ X : List Int, X.length = k + 1 ∧ (l ++ List.replicate k 0).take (s + k) ++ l.drop s = l.take (s - 1) ++ X ++ l.drop s := by
  refine ⟨((l ++ List.replicate k 0).take (s + k)).drop (s - 1), by simp; omega, ?_⟩
  congr 1
  have e : l.take (s - 1) = ((l ++ List.replicate k 0).take (s + k)).take (s - 1) := by
    rw [List.take_take, List.take_append_of_le_length (by omega)]
    congr 1
    omega
  rw [e, List.take_append_drop]

/-- The row behind the copy. -/
theorem der_moved {W : World} {D base N g c s k : Nat} {l : List Int} {cur : List Value} (h : Der W D base (l ++ List.replicate k 0) (N + k) (some ⟨g, 0, none⟩) c) (hgD : g ≠ D) (hl : l.length = N) (hs : s ≤ N)
    (hcur : W.heap[g]? = some (.cells cur.toArray 5 (0, 0))) (hcz : cur.length = c) (hct : cur.take (N + k) = U (l ++ List.replicate k 0)) (hNc : N + k ≤ c) (hcm : c ≤ maxLen) (hbg : base ≤ g) :
    Der (W.drew.setRow g (splice cur (s + k) (U (l.drop s))).toArray) D base ((l ++ List.replicate k 0).take (s + k) ++ l.drop s) (N + k) (some ⟨g, 0, none⟩) c := by
  have hcl : (U (l.drop s)).length = N - s := by rw [U_length, List.length_drop, hl]
  refine ⟨?_, ?_, ?_, h.lo⟩
  · rw [setRow_other W.drew g D _ (Ne.symm hgD)]
    exact h.box
  · refine ⟨by rw [U_length]; simp; omega, .inr ⟨g, c, _, rfl, hbg, setRow_heap W.drew g cur.toArray _ 5 _ hcur, hNc, hcm, ?_, ?_⟩⟩
    · simp only [List.size_toArray]
      rw [length_splice _ _ _ (by omega)]
      omega
    · rw [Nat.mul_one, U_append]
      simp only [splice]
      have e1 : U ((l ++ List.replicate k 0).take (s + k)) = cur.take (s + k) := by
        have : U ((l ++ List.replicate k 0).take (s + k)) = (U (l ++ List.replicate k 0)).take (s + k) := by simp [U]
        rw [this, ← hct, List.take_take]
        congr 1
        omega
      rw [e1, ← List.append_assoc]
      exact List.take_left' (by rw [List.length_append, hcl, List.length_take]; omega)
  · simp; omega

/-- A copy inside a known row, as one step of a region that draws its order: the world written out. -/
theorem step_copy_exact {P : Program} {ops : Array Oper} {o : Oper} {a : Act} {w : World} {K : Act → World → Prop} {Q : Exit → Act → World → Prop} {E : Prop} (hgd : o.guard = none) (d s : Operand) (dT sT : TypeId)
    (ho : o.op = .call { callee := .builtin .copy, args := #[d, s], argTypes := #[dT, sT] }) (elem : TypeId) (hu : P.underlying dT = some (.slice elem)) (hsz : (P.info? elem).map (·.size) = some 1)
    (g off so dLen dCap sLen sCap : Nat) (hd : a.eval d = .slice (some ⟨g, off, none⟩) dLen dCap) (hs : a.eval s = .slice (some ⟨g, so, none⟩) sLen sCap)
    (cur : List Value) (t : TypeId) (hg : w.heap[g]? = some (.cells cur.toArray t (0, 0))) (cs : List Value) (hn : cs.length = Nat.min sLen dLen)
    (hsrc : ∀ j v, cs[j]? = some v → w.cell? ((⟨g, so, none⟩ : Addr).add j) = some v)
    (hfit : off + cs.length ≤ cur.length) (h1 : ∀ v ∈ cs, v.oneCell' = true)
    (h : K (a.put o.dst (goInt cs.length)) (w.setRow g (splice cur off cs).toArray)) :
    if Region.wanted o (yielded ops a.tmps) = true then Oper.wp P o a w K Q else E := by
  have hw : Region.wanted o (yielded ops a.tmps) = true := by simp [Region.wanted, hgd]
  rw [if_pos hw]
  have hrun := run_copy_row (P := P) w dT sT o.type elem g off dLen dCap ⟨g, so, none⟩ sLen sCap cur.toArray t cs hu hsz hg hn hsrc (by simpa using hfit) h1
  unfold Oper.wp
  simp [execOp, ho, resolve, invoke, builtin, hd, hs, hrun, Result.andThen]
  have h' : K (a.put o.dst (goInt cs.length)) (w.setRow g (List.take off cur ++ (cs ++ List.drop (off + cs.length) cur)).toArray) := h
  exact h'

theorem Der.drew {w : World} {D base N : Nat} {l : List Int} {ao : Option Addr} {cap : Nat} (h : Der w D base l N ao cap) : Der w.drew D base l N ao cap := ⟨h.box, h.own, h.len, h.lo⟩

theorem endL_is {l : List Int} {N s : Nat} {Y : List Int} (hl : l.length = N) (h : lenT (N - s) = Y) : endL l s = l.take (s - 1) ++ Y ++ l.drop s := by
  rw [endL, hl, h]

end Go.Proofs.Qxb6601770a
