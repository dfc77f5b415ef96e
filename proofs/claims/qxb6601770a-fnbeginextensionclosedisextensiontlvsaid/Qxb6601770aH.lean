import Derived.Test.Qxb6601770aG1
import Derived.Test.Qxb6601770aG2
import Derived.Test.Qxb6601770aG3
namespace Go.Proofs.Qxb6601770a
open Go.RowKit
set_option linter.unusedVariables false

theorem endL_length (l : List Int) (s : Nat) (h1 : 1 ≤ s) (h2 : s ≤ l.length) : (endL l s).length = l.length - 1 + (lenT (l.length - s)).length := by
  simp [endL]; omega

theorem end_any (D base : Nat) (l : List Int) (N : Nat) (ao : Option Addr) (cap s : Nat) (w : World) (h : Der w D base l N ao cap) (hbs : base ≤ w.heap.size) (hN : N ≤ 8388608) (h1 : 1 ≤ s) (h2 : s ≤ N) :
    Calls Try.prog 25 #[.pointer (some ⟨D, 0, none⟩), .int .i64 (s : Int)] w fun e w' => e = .returned (.tuple #[]) ∧ Below base w w' ∧ ∃ N' ao cap', Der w' D base (endL l s) N' ao cap' := by
  obtain ⟨g, rfl, hgb, hgD⟩ := h.shape (by omega)
  by_cases c1 : N - s < 128
  · exact (end_short D base l N g cap s w h hgD hgb (by omega) h1 h2 c1).mono fun e w' ⟨he, hb, hd⟩ => ⟨he, hb, _, _, _, hd⟩
  · by_cases c2 : N - s < 256
    · refine (end_1 D base l N g cap s w h hgD hgb hbs (by omega) h1 h2 _ rfl (by omega) (by omega) ?_).mono fun e w' ⟨he, hb, a, c, hd⟩ => ⟨he, hb, _, a, c, hd⟩
      show lenT (N - s) = _
      rw [lenT2 (by omega) c2]
      congr 2; omega
    · by_cases c3 : N - s < 65536
      · refine (end_2 D base l N g cap s w h hgD hgb hbs (by omega) h1 h2 _ rfl (by omega) (by omega) ?_).mono fun e w' ⟨he, hb, a, c, hd⟩ => ⟨he, hb, _, a, c, hd⟩
        show lenT (N - s) = _
        rw [lenT3 (by omega) c3, show ((N - s : Nat) : Int) = (N : Int) - (s : Int) by omega]
      · refine (end_3 D base l N g cap s w h hgD hgb hbs (by omega) h1 h2 _ rfl (by omega) (by omega) ?_).mono fun e w' ⟨he, hb, a, c, hd⟩ => ⟨he, hb, _, a, c, hd⟩
        show lenT (N - s) = _
        rw [lenT4 (by omega), show ((N - s : Nat) : Int) = (N : Int) - (s : Int) by omega]

theorem der_new {w : World} {base N cap : Nat} {ao : Option Addr} {l : List Int} (hown : w.ownsRow base 5 1 (.slice ao N cap) N (U l)) (hl : l.length = N) (hb : base ≤ w.heap.size) :
    Der (w.alloc (.cells #[.slice ao N cap] 39)) w.heap.size base l N ao cap :=
  ⟨heap_alloc_new w _, hown.alloc _, hl, hb⟩

theorem zzEnd (base : Nat) (l : List Int) (N : Nat) (ao : Option Addr) (cap s : Nat) (w : World) (hown : w.ownsRow base 5 1 (.slice ao N cap) N (U l)) (hl : l.length = N) (hbs : base ≤ w.heap.size) (hN : N ≤ 8388608) (h1 : 1 ≤ s) (h2 : s ≤ N) :
    Calls Try.prog 11 #[.slice ao N cap, .int .i64 (s : Int)] w fun e w' => ∃ ao' cap' N', Hid (N' = (endL l s).length) ∧ e = .returned (.slice ao' N' cap') ∧ w'.ownsRow base 5 1 (.slice ao' N' cap') N' (U (endL l s)) ∧ Below base w w' := by
  have hd := der_new hown hl hbs
  have hb0 : Below base w (w.alloc (.cells #[.slice ao N cap] 39)) := (Below.refl _ _).alloc hbs _
  have HO : Hid (w.ownsRow base 5 1 (.slice ao N cap) N (U l)) := hown
  have HL : Hid (l.length = N) := hl
  clear hown hl
  go_enter Try.func11, Try.ntmps11
  go_wp2_with (go_at_call 25; refine (end_any _ base l N ao cap s _ hd (by simp; omega) hN h1 h2).mono ?_; rintro e w1 ⟨rfl, hb1, N', ao', cap', hd1⟩; have hc1 := hd1.cell)
  go_ret
  exact ⟨ao', cap', N', hd1.len.symm, rfl, hd1.own, hb0.trans hb1⟩

end Go.Proofs.Qxb6601770a
