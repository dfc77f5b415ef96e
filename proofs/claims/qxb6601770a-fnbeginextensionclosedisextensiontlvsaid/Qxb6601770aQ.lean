import Derived.Test.Qxb6601770aP1
import Derived.Test.Qxb6601770aP2
import Derived.Test.Qxb6601770aP3
namespace Go.Proofs.Qxb6601770a
open Go.RowKit
set_option linter.unusedVariables false

theorem endF_short (D base : Nat) (l : List Int) (N g cap s : Nat) (w : World) (h : Der w D base l N (some ⟨g, 0, none⟩) cap) (hgD : g ≠ D) (hgb : base ≤ g) (hN : N ≤ 16777216) (h1 : 1 ≤ s) (h2 : s ≤ N) (h3 : N - s < 128) :
    Calls Try.prog 25 #[.pointer (some ⟨D, 0, none⟩), .int .i64 (s : Int)] w fun e w' => e = .returned (.tuple #[]) ∧ Bw base D (.slice (some ⟨g, 0, none⟩) N cap) w w' ∧ Der w' D base (endL l s) N (some ⟨g, 0, none⟩) cap := by
  have hc := h.cell
  have hcs := h.at (j := s - 1) (by omega)
  have hfs := h.own.frozenAt (s - 1)
  have HD : Hid (Der (w.setCell ⟨g, s - 1, none⟩ (.int .u8 ((N : Int) - (s : Int)))) D base (l.set (s - 1) ((N : Int) - (s : Int))) N (some ⟨g, 0, none⟩) cap) := h.put hgD _ _
  have hE : endL l s = l.set (s - 1) ((N : Int) - (s : Int)) := by
    have e := h.len
    rw [set_is l s _ h1 (by omega), endL, lenT1 (by omega)]
    congr 3
    omega
  have HE : Hid (endL l s = l.set (s - 1) ((N : Int) - (s : Int))) := hE
  have i1 : (N : Int) - (s : Int) < 128 := by omega
  have i2 : (s : Int) ≤ (N : Int) := by omega
  have i3 : (1 : Int) ≤ (s : Int) := by omega
  clear hE h
  go_enter Try.func25, Try.ntmps25
  go_wp2
  exact bodyPost_ret (v := .tuple #[]) (results_none Try.results25 _ _ _) rfl ⟨rfl, (Bw.refl _ _ _ _).setCell hgb (.inl rfl) _, by rw [HE.out]; exact HD.out⟩

theorem endF_any (D base : Nat) (l : List Int) (N : Nat) (ao : Option Addr) (cap s : Nat) (w : World) (h : Der w D base l N ao cap) (hbs : base ≤ w.heap.size) (hN : N ≤ 8388608) (h1 : 1 ≤ s) (h2 : s ≤ N) :
    Calls Try.prog 25 #[.pointer (some ⟨D, 0, none⟩), .int .i64 (s : Int)] w fun e w' => e = .returned (.tuple #[]) ∧ Bw base D (.slice ao N cap) w w' ∧ ∃ N' ao' cap', Der w' D base (endL l s) N' ao' cap' ∧ Fr w (.slice ao N cap) (.slice ao' N' cap') := by
  obtain ⟨g, rfl, hgb, hgD⟩ := h.shape (by omega)
  by_cases c1 : N - s < 128
  · exact (endF_short D base l N g cap s w h hgD hgb (by omega) h1 h2 c1).mono fun e w' ⟨he, hb, hd⟩ => ⟨he, hb, _, _, _, hd, Fr.refl _ _⟩
  · by_cases c2 : N - s < 256
    · refine (endF_1 D base l N g cap s w h hgD hgb hbs (by omega) h1 h2 _ rfl (by omega) (by omega) ?_).mono fun e w' ⟨he, hb, a, c, hd, hf⟩ => ⟨he, hb, _, a, c, hd, hf⟩
      show lenT (N - s) = _
      rw [lenT2 (by omega) c2]
      congr 2; omega
    · by_cases c3 : N - s < 65536
      · refine (endF_2 D base l N g cap s w h hgD hgb hbs (by omega) h1 h2 _ rfl (by omega) (by omega) ?_).mono fun e w' ⟨he, hb, a, c, hd, hf⟩ => ⟨he, hb, _, a, c, hd, hf⟩
        show lenT (N - s) = _
        rw [lenT3 (by omega) c3, show ((N - s : Nat) : Int) = (N : Int) - (s : Int) by omega]
      · refine (endF_3 D base l N g cap s w h hgD hgb hbs (by omega) h1 h2 _ rfl (by omega) (by omega) ?_).mono fun e w' ⟨he, hb, a, c, hd, hf⟩ => ⟨he, hb, _, a, c, hd, hf⟩
        show lenT (N - s) = _
        rw [lenT4 (by omega), show ((N - s : Nat) : Int) = (N : Int) - (s : Int) by omega]

theorem endF_at (x : Int) (D base : Nat) (l : List Int) (N : Nat) (ao : Option Addr) (cap s : Nat) (w : World) (hx : x = s) (h : Der w D base l N ao cap) (hbs : base ≤ w.heap.size) (hN : N ≤ 8388608) (h1 : 1 ≤ s) (h2 : s ≤ N) :
    Calls Try.prog 25 #[.pointer (some ⟨D, 0, none⟩), .int .i64 x] w fun e w' => e = .returned (.tuple #[]) ∧ Bw base D (.slice ao N cap) w w' ∧ ∃ N' ao' cap', Der w' D base (endL l s) N' ao' cap' ∧ Fr w (.slice ao N cap) (.slice ao' N' cap') := by
  subst hx
  exact endF_any D base l N ao cap s w h hbs hN h1 h2

set_option maxHeartbeats 400000 in
theorem beginF (D base : Nat) (l : List Int) (N : Nat) (ao : Option Addr) (cap : Nat) (t : Int) (w : World) (h : Der w D base l N ao cap) (hN : N ≤ 16777216) (hbs : base ≤ w.heap.size) :
    Calls Try.prog 28 #[.pointer (some ⟨D, 0, none⟩), .int .u8 t] w fun e w' => e = .returned (.int .i64 ((N : Int) + 2)) ∧ Bw base D (.slice ao N cap) w w' ∧ ∃ ao' cap', Der w' D base (l ++ [t, 0]) (N + 2) ao' cap' ∧ Fr w (.slice ao N cap) (.slice ao' (N + 2) cap') := by
  have hc := h.cell
  have hfz := h.frozen
  have hb0 : Below w.heap.size w (w.alloc (.cells #[.int .u8 t, .int .u8 0] 5)) := (Below.refl _ _).alloc (Nat.le_refl _) _
  have hw0 : Bw base D (.slice ao N cap) w (w.alloc (.cells #[.int .u8 t, .int .u8 0] 5)) := (Bw.refl _ _ _ _).alloc hbs _
  have ho0 : (w.alloc (.cells #[.int .u8 t, .int .u8 0] 5)).ownsRow w.heap.size 5 1 (.slice (some ⟨w.heap.size, 0, none⟩) 2 2) 2 (U [t, 0]) := owns_lit w [t, 0] (by simp)
  have ro0 := rd_of_owns ho0 rfl
  have hd0 := h.below hb0
  have H : Hid (Der w D base l N ao cap) := h
  clear h
  go_enter Try.func28, Try.ntmps28
  go_wp2_with (at_builtin; refine wpList_appendedF _ rfl (.tmp 8) (.tmp 10) 39 39 rfl 5 base _ _ N 2 (N + 2) rfl (U l) (U [t, 0]) rfl rfl (fun ty => app_rdF Try.underlying39 Try.underlying39 hd0.own ro0 rfl (fun h => by cases h) (by omega) (by simp; omega)) ?_; intro ao1 c1 w1 hown1 hg1 hfr1; have FRR : Hid (∀ k, (Value.slice ao1 (N + 2) c1).ownBlock = some k → (Value.slice ao N cap).ownBlock = some k ∨ (w.alloc (.cells #[.int .u8 t, .int .u8 0] 5)).heap.size ≤ k) := hfr1; clear hfr1; have hbx : w1.heap[D]? = some (.cells #[.slice ao N cap] 39 (0, 0)) := H.out.kept hb0 hg1; have hcx : w1.cell? ⟨D, 0, none⟩ = some (.slice ao N cap) := cell_of_row _ _ 0 _ 39 (0, 0) hbx; have hfx : w1.frozen? ⟨D, 0, none⟩ = false := frozen_of_row _ _ 0 _ 39 hbx)
  go_ret
  refine ⟨rfl, ?_, ao1, c1, Der.stored hbx hown1 (by simp; exact H.out.len) H.out.lo, ?_⟩
  · exact (hw0.grown hd0.own hg1 (by simp; omega)).setD H.out.lo _
  · intro k hk
    rcases FRR.out k hk with e | e
    · exact .inl e
    · exact .inr (by simp at e; omega)

end Go.Proofs.Qxb6601770a
