import Derived.Test.Qxb6601770aQ
import Derived.Test.Qxb6601770aL
namespace Go.Proofs.Qxb6601770a
open Go.RowKit
set_option linter.unusedVariables false

/-- A block of another element type is not the slice's own row. -/
theorem ne_own {w : World} {base n b t : Nat} {v : Value} {xs : List Value} {c : Array Value} (hown : w.ownsRow base 5 1 v n xs) (hb : w.heap[b]? = some (.cells c t (0, 0))) (ht : t ≠ 5) : some b ≠ v.ownBlock := by
  intro e
  rcases hown.2 with ⟨h', _⟩ | ⟨g, cap', cur, h', _, hg, _⟩
  · rw [h'] at e; simp [Value.ownBlock] at e
  · rw [h'] at e
    simp [Value.ownBlock] at e
    subst e
    rw [hg] at hb
    simp at hb
    exact ht hb.2.symm

theorem ne_box {w : World} {D base N b t : Nat} {l : List Int} {ao : Option Addr} {cap : Nat} {c : Array Value} (h : Der w D base l N ao cap) (hb : w.heap[b]? = some (.cells c t (0, 0))) (ht : t ≠ 39) : b ≠ D := by
  intro e
  subst e
  rw [h.box] at hb
  simp at hb
  exact ht hb.2.symm

set_option maxRecDepth 100000 in
set_option maxHeartbeats 1000000 in
/-- 'add' of one part. -/
theorem add1 (D base : Nat) (l : List Int) (N : Nat) (ao : Option Addr) (cap : Nat) (t : Int) (Pb Qb : Nat) (y : Int) (w : World) (h : Der w D base l N ao cap) (hbs : base ≤ w.heap.size) (hN : N ≤ 4194304)
    (hP : w.heap[Pb]? = some (.cells #[.slice (some ⟨Qb, 0, none⟩) 1 1] 22 (0, 0))) (hQ : w.heap[Qb]? = some (.cells #[.int .u8 y] 5 (0, 0))) (hne : some Qb ≠ (Value.slice ao N cap).ownBlock) :
    Calls Try.prog 29 #[.pointer (some ⟨D, 0, none⟩), .int .u8 t, .slice (some ⟨Pb, 0, none⟩) 1 1] w fun e w' => e = .returned (.tuple #[]) ∧ Bw base D (.slice ao N cap) w w' ∧
      ∃ N' ao' cap', Der w' D base (l ++ tlv t [y]) N' ao' cap' ∧ Fr w (.slice ao N cap) (.slice ao' N' cap') := by
  have HP : Hid (w.heap[Pb]? = some (.cells #[.slice (some ⟨Qb, 0, none⟩) 1 1] 22 (0, 0))) := hP
  have HQ : Hid (w.heap[Qb]? = some (.cells #[.int .u8 y] 5 (0, 0))) := hQ
  have HNE : Hid (some Qb ≠ (Value.slice ao N cap).ownBlock) := hne
  have H : Hid (Der w D base l N ao cap) := h
  clear hP hQ hne
  go_enter Try.func29, Try.ntmps29
  go_wp2_with (go_at_call 28; refine (beginF D base l N ao cap t _ h (by omega) hbs).mono ?_; rintro e w1 ⟨rfl, hw1, ao1, c1, hd1, hf1⟩)
  have hP1 : w1.heap[Pb]? = some (.cells #[.slice (some ⟨Qb, 0, none⟩) 1 1] 22 (0, 0)) := (hw1.keep Pb (Array.getElem?_eq_some_iff.1 HP.out).1 (ne_box h HP.out (by decide)) (ne_own h.own HP.out (by decide))).trans HP.out
  have hQ1 : w1.heap[Qb]? = some (.cells #[.int .u8 y] 5 (0, 0)) := (hw1.keep Qb (Array.getElem?_eq_some_iff.1 HQ.out).1 (ne_box h HQ.out (by decide)) HNE.out).trans HQ.out
  have cP : w1.cell? ⟨Pb, 0, none⟩ = some (.slice (some ⟨Qb, 0, none⟩) 1 1) := cell_of_row _ _ 0 _ 22 (0, 0) hP1
  have rQ : Rd w1 (some ⟨Qb, 0, none⟩) [y] := by
    intro i hi
    obtain rfl : i = 0 := by simpa using hi
    exact ⟨Qb, 0, rfl, cell_of_row _ _ 0 _ 5 (0, 0) hQ1⟩
  have hc1 := hd1.cell
  have hs1 := hw1.bel.size
  have HW1 : Hid (Bw base D (.slice ao N cap) w w1) := hw1
  have HF1 : Hid (Fr w (.slice ao N cap) (.slice ao1 (N + 2) c1)) := hf1
  clear hw1 hf1 hP1 hQ1 h
  go_loopg [14] 1 (fun r x wx => (r = 1 ∧ x = .int .i64 0 ∧ wx = w1) ∨ (r = 0 ∧ x = .int .i64 1 ∧ ∃ ao2 c2, Der wx D base (l ++ [t, 0] ++ [y]) (N + 3) ao2 c2 ∧ Bw base D (.slice ao N cap) w wx ∧ Fr w (.slice ao N cap) (.slice ao2 (N + 3) c2)))
  case atStart => exact .inl ⟨rfl, rfl, rfl⟩
  case round =>
    rcases hrel with ⟨rfl, rfl, hww⟩ | ⟨rfl, rfl, ao2, c2, hd2, hw2, hf2⟩
    · have hww' := hww.symm
      subst hww'
      clear hww
      go_wp2_with (at_builtin; refine wpList_appendedF _ rfl (.tmp 21) (.tmp 22) 39 22 rfl 5 base _ _ (N + 2) 1 (N + 3) rfl (U (l ++ [t, 0])) (U [y]) rfl rfl (fun ty => app_rdF Try.underlying39 Try.underlying22 hd1.own rQ rfl (fun h => by cases h) (by omega) (by omega)) ?_; intro ao2 c2 w2 hown2 hg2 hfr2; have FRR : Hid (Fr w1 (.slice ao1 (N + 2) c1) (.slice ao2 (N + 3) c2)) := hfr2; clear hfr2; have hbx : w2.heap[D]? = some (.cells #[.slice ao1 (N + 2) c1] 39 (0, 0)) := hd1.kept (Below.refl _ _) hg2; have hcx : w2.cell? ⟨D, 0, none⟩ = some (.slice ao1 (N + 2) c1) := cell_of_row _ _ 0 _ 39 (0, 0) hbx; have hfx : w2.frozen? ⟨D, 0, none⟩ = false := frozen_of_row _ _ 0 _ 39 hbx)
      go_roundg 0
      case measure => omega
      case rel => exact .inr ⟨rfl, by go_num, ao2, c2, Der.stored hbx hown2 (by have := H.out.len; simp; omega) H.out.lo, HW1.out.trans HF1.out (((Bw.refl _ _ _ _).grown hd1.own hg2 (by omega)).setD H.out.lo _), HF1.out.trans hs1 FRR.out⟩
    · have hs2 := hw2.bel.size
      have HW2 : Hid (Bw base D (.slice ao N cap) w wr) := hw2
      have HF2 : Hid (Fr w (.slice ao N cap) (.slice ao2 (N + 3) c2)) := hf2
      clear hw2 hf2
      go_wp2_with (go_at_call 25; refine (endF_at _ D base (l ++ [t, 0] ++ [y]) (N + 3) ao2 c2 (N + 2) _ (by omega) hd2 (by omega) (by omega) (by omega) (by omega)).mono ?_; rintro e w3 ⟨rfl, hw3, N3, ao3, c3, hd3, hf3⟩)
      go_end0
      exact ⟨rfl, HW2.out.trans HF2.out hw3, N3, ao3, c3, by rw [← endL_tlv l t [y] N H.out.len]; exact hd3, HF2.out.trans hs2 hf3⟩

end Go.Proofs.Qxb6601770a
