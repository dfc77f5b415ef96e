import Derived.Test.Qxb6601770aK
namespace Go.Proofs.Qxb6601770a
open Go.RowKit
set_option linter.unusedVariables false

theorem app_string {w : World} {ty base n : Nat} {v : Value} {la : List Int} (s : ByteArray) (hown : w.ownsRow base 5 1 v n (U la)) (hb : n + s.size ≤ 140737488355328) (hbase : base ≤ w.heap.size) :
    Appended Try.prog w 39 9 ty 5 base v (.string s) n s.size (U la) (U (sb s)) := by
  obtain ⟨i0, hi0, hz0, hz1, hz2⟩ := info_parts info5
  rw [U_sb]
  exact append_src w 39 9 ty 5 base i0 (.int .u8 0) Try.underlying39 hi0 hz0 hz1 hz2 rfl v n (U la) hown _ s.size _ (Src.ofString w Try.underlying9 s) hb hbase

theorem end_at (x : Int) (D base : Nat) (l : List Int) (N : Nat) (ao : Option Addr) (cap s : Nat) (w : World) (hx : x = s) (h : Der w D base l N ao cap) (hbs : base ≤ w.heap.size) (hN : N ≤ 8388608) (h1 : 1 ≤ s) (h2 : s ≤ N) :
    Calls Try.prog 25 #[.pointer (some ⟨D, 0, none⟩), .int .i64 x] w fun e w' => e = .returned (.tuple #[]) ∧ Below base w w' ∧ ∃ N' ao cap', Der w' D base (endL l s) N' ao cap' := by
  subst hx
  exact end_any D base l N ao cap s w h hbs hN h1 h2

/-- An element closed: the tag, the length, the contents. -/
theorem endL_tlv (l : List Int) (t : Int) (c : List Int) (N : Nat) (hl : l.length = N) : endL (l ++ [t, 0] ++ c) (N + 2) = l ++ tlv t c := by
  subst hl
  have e1 : (l ++ [t, 0] ++ c).take (l.length + 2 - 1) = l ++ [t] := by
    rw [show l.length + 2 - 1 = l.length + 1 by omega, List.append_assoc, List.take_append, List.take_of_length_le (by omega)]
    simp
  have e2 : (l ++ [t, 0] ++ c).drop (l.length + 2) = c := by
    rw [List.drop_append, List.drop_eq_nil_of_le (by simp)]
    simp
  have e3 : (l ++ [t, 0] ++ c).length - (l.length + 2) = c.length := by simp; omega
  rw [endL, e1, e2, e3, tlv]
  simp

set_option maxHeartbeats 400000 in
theorem addString (D base : Nat) (l : List Int) (N : Nat) (ao : Option Addr) (cap : Nat) (t : Int) (s : ByteArray) (w : World) (h : Der w D base l N ao cap) (hbs : base ≤ w.heap.size) (hN : N ≤ 2097152) (hs : s.size ≤ 2097152) :
    Calls Try.prog 26 #[.pointer (some ⟨D, 0, none⟩), .int .u8 t, .string s] w fun e w' => e = .returned (.tuple #[]) ∧ Below base w w' ∧ ∃ N' ao' cap', Der w' D base (l ++ tlv t (sb s)) N' ao' cap' := by
  have hlen := h.len
  have HLEN : Hid (l.length = N) := hlen
  clear hlen
  go_enter Try.func26, Try.ntmps26
  go_wp2_with (first
    | (go_at_call 28; refine (begin D base l N ao cap t _ h (by omega) hbs).mono ?_; rintro e w1 ⟨rfl, hb1, ao1, c1, hd1⟩; have hc1 := hd1.cell; have hs1 := hb1.size)
    | (at_builtin; refine wpList_appended _ rfl (.tmp 13) (.tmp 14) 39 9 rfl 5 base _ _ (N + 2) s.size (N + 2 + s.size) rfl (U (l ++ [t, 0])) (U (sb s)) rfl rfl (fun ty => app_string s hd1.own (by omega) (by omega)) ?_; intro ao2 c2 w2 hown2 hg2; have hbx : w2.heap[D]? = some (.cells #[.slice ao1 (N + 2) c1] 39 (0, 0)) := hd1.kept (Below.refl _ _) hg2; have hcx : w2.cell? ⟨D, 0, none⟩ = some (.slice ao1 (N + 2) c1) := cell_of_row _ _ 0 _ 39 (0, 0) hbx; have hfx : w2.frozen? ⟨D, 0, none⟩ = false := frozen_of_row _ _ 0 _ 39 hbx; have hd2 : Der (w2.setCell ⟨D, 0, none⟩ (.slice ao2 (N + 2 + s.size) c2)) D base (l ++ [t, 0] ++ sb s) (N + 2 + s.size) ao2 c2 := Der.stored hbx hown2 (by have := HLEN.out; simp [sb_length]; omega) h.lo; have hb2 : Below base w1 (w2.setCell ⟨D, 0, none⟩ (.slice ao2 (N + 2 + s.size) c2)) := (below_grown (Below.refl _ _) hd1.own hg2 (Nat.le_refl _) (by omega)).setCell h.lo _; have hs2 := hb2.size)
    | (go_at_call 25; refine (end_at _ D base (l ++ [t, 0] ++ sb s) (N + 2 + s.size) ao2 c2 (N + 2) _ (by omega) hd2 (by omega) (by omega) (by omega) (by omega)).mono ?_; rintro e w3 ⟨rfl, hb3, N3, ao3, c3, hd3⟩))
  go_end0
  exact ⟨rfl, hb1.trans (hb2.trans hb3), N3, ao3, c3, by rw [← endL_tlv l t (sb s) N HLEN.out]; exact hd3⟩

theorem zzAddString (base : Nat) (l : List Int) (N : Nat) (ao : Option Addr) (cap : Nat) (t : Int) (s : ByteArray) (w : World) (hown : w.ownsRow base 5 1 (.slice ao N cap) N (U l)) (hl : l.length = N) (hbs : base ≤ w.heap.size) (hN : N ≤ 2097152) (hs : s.size ≤ 2097152) :
    Calls Try.prog 18 #[.slice ao N cap, .int .u8 t, .string s] w fun e w' => ∃ ao' cap' N', Hid (N' = (l ++ tlv t (sb s)).length) ∧ e = .returned (.slice ao' N' cap') ∧ w'.ownsRow base 5 1 (.slice ao' N' cap') N' (U (l ++ tlv t (sb s))) ∧ Below base w w' := by
  have hd := der_new hown hl hbs
  have hb0 : Below base w (w.alloc (.cells #[.slice ao N cap] 39)) := (Below.refl _ _).alloc hbs _
  have HO : Hid (w.ownsRow base 5 1 (.slice ao N cap) N (U l)) := hown
  have HL : Hid (l.length = N) := hl
  clear hown hl
  go_enter Try.func18, Try.ntmps18
  go_wp2_with (go_at_call 26; refine (addString _ base l N ao cap t s _ hd (by simp; omega) hN hs).mono ?_; rintro e w1 ⟨rfl, hb1, N', ao', cap', hd1⟩; have hc1 := hd1.cell)
  go_ret
  exact ⟨ao', cap', N', hd1.len.symm, rfl, hd1.own, hb0.trans hb1⟩

end Go.Proofs.Qxb6601770a
