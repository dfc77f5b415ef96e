import Derived.Test.Qxb6601770aE
namespace Go.Proofs.Qxb6601770a
open Go.RowKit
set_option linter.unusedVariables false

/-- What 'end(start)' makes of the bytes. -/
def endL (l : List Int) (s : Nat) : List Int := l.take (s - 1) ++ lenT (l.length - s) ++ l.drop s

theorem Der.shape {w : World} {D base N : Nat} {l : List Int} {ao : Option Addr} {cap : Nat} (h : Der w D base l N ao cap) (hN : 0 < N) : ∃ g, ao = some ⟨g, 0, none⟩ ∧ base ≤ g ∧ g ≠ D := by
  rcases h.own.2 with ⟨h', e⟩ | ⟨g, cap', cur, h', hb, hg, _⟩
  · omega
  · simp only [Value.slice.injEq] at h'
    obtain ⟨rfl, _, rfl⟩ := h'
    refine ⟨g, rfl, hb, fun e => ?_⟩
    subst e
    rw [h.box] at hg
    simp at hg

theorem set_is (l : List Int) (s : Nat) (x : Int) (h1 : 1 ≤ s) (h2 : s ≤ l.length) : l.set (s - 1) x = l.take (s - 1) ++ [x] ++ l.drop s := by
  rw [List.set_eq_take_append_cons_drop, if_pos (by omega)]
  simp
  congr 1
  omega

theorem Der.put {w : World} {D base N g cap : Nat} {l : List Int} (h : Der w D base l N (some ⟨g, 0, none⟩) cap) (hgD : g ≠ D) (j : Nat) (x : Int) : Der (w.setCell ⟨g, j, none⟩ (.int .u8 x)) D base (l.set j x) N (some ⟨g, 0, none⟩) cap := by
  refine ⟨?_, ?_, by simpa using h.len, h.lo⟩
  · rw [heap_setCell_other w ⟨g, j, none⟩ D _ (Ne.symm hgD)]
    exact h.box
  · have := (h.own.stored j (.int .u8 x)).1
    have e : (U l).set j (.int .u8 x) = U (l.set j x) := by simp [U, List.map_set]
    rwa [e] at this

theorem Der.at {w : World} {D base N g cap : Nat} {l : List Int} (h : Der w D base l N (some ⟨g, 0, none⟩) cap) {j : Nat} (hj : j < N) : w.cell? ⟨g, j, none⟩ = some (.int .u8 (l.getD j 0)) := by
  rw [h.own.cellAt j (by omega), U_get l j (by have := h.len; omega)]

theorem end_short (D base : Nat) (l : List Int) (N g cap s : Nat) (w : World) (h : Der w D base l N (some ⟨g, 0, none⟩) cap) (hgD : g ≠ D) (hgb : base ≤ g) (hN : N ≤ 16777216) (h1 : 1 ≤ s) (h2 : s ≤ N) (h3 : N - s < 128) :
    Calls Try.prog 25 #[.pointer (some ⟨D, 0, none⟩), .int .i64 (s : Int)] w fun e w' => e = .returned (.tuple #[]) ∧ Below base w w' ∧ Der w' D base (endL l s) N (some ⟨g, 0, none⟩) cap := by
  have hc := h.cell
  have hcs := h.at (j := s - 1) (by omega)
  have hfs := h.own.frozenAt (s - 1)
  have HD : Hid (Der (w.setCell ⟨g, s - 1, none⟩ (.int .u8 ((N : Int) - (s : Int)))) D base (l.set (s - 1) ((N : Int) - (s : Int))) N (some ⟨g, 0, none⟩) cap) := h.put hgD _ _
  have hE : endL l s = l.set (s - 1) ((N : Int) - (s : Int)) := by
    have e := h.len
    rw [set_is l s _ h1 (by omega), endL, lenT1 (by omega)]
    congr 3
    omega
  have HE : Hid (endL l s = l.set (s - 1) ((N : Int) - (s : Int))) := hE
  have i1 : (N : Int) - (s : Int) < 128 := by omega
  have i2 : (s : Int) ≤ (N : Int) := by omega
  have i3 : (1 : Int) ≤ (s : Int) := by omega
  clear hE h
  go_enter Try.func25, Try.ntmps25
  go_wp2
  exact bodyPost_ret (v := .tuple #[]) (results_none Try.results25 _ _ _) rfl ⟨rfl, (Below.refl _ _).setCell hgb _, by rw [HE.out]; exact HD.out⟩
end Go.Proofs.Qxb6601770a
