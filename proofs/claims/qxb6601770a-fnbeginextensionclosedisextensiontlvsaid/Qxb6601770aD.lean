import Derived.Test.Qxb6601770aC
namespace Go.Proofs.Qxb6601770a
open Go.RowKit
set_option linter.unusedVariables false

/-- Tag, length, contents. -/
def tlv (t : Int) (l : List Int) : List Int := [t] ++ lenT l.length ++ l
theorem tlv_length (t : Int) (l : List Int) : (tlv t l).length = 1 + (lenT l.length).length + l.length := by simp [tlv]; omega

set_option maxHeartbeats 400000 in
theorem zzTLV (t : Int) (a : Option Addr) (n c : Nat) (l : List Int) (w : World) (hl : l.length = n) (hn : n ≤ 8388608) (ra : Rd w a l) (na : a = none → n = 0) :
    Calls Try.prog 19 #[.int .u8 t, .slice a n c] w fun e w' => ∃ ao cp N, Hid (N = (tlv t l).length) ∧ e = .returned (.slice ao N cp) ∧ w'.ownsRow w.heap.size 5 1 (.slice ao N cp) N (U (tlv t l)) ∧ Below w.heap.size w w' := by
  have hb0 : Below w.heap.size w (w.alloc (.cells #[.int .u8 t] 5)) := (Below.refl _ _).alloc (Nat.le_refl _) _
  have ho0 : (w.alloc (.cells #[.int .u8 t] 5)).ownsRow w.heap.size 5 1 (.slice (some ⟨w.heap.size, 0, none⟩) 1 1) 1 (U [t]) := owns_lit w [t] (by simp)
  have hlt := lenT_length n
  have HL : Hid (l.length = n) := hl
  have NA : Hid (a = none → n = 0) := na
  clear hl na
  go_enter Try.func19, Try.ntmps19
  go_wp2_with fail
  refine (lenTable_own n _ (by omega)).mono ?_
  rintro e w1 ⟨ao1, c1, N1, hN1, rfl, hown1, hb1⟩
  have hN1b : 1 ≤ N1 ∧ N1 ≤ 4 := by rw [hN1.out]; exact hlt
  have hB1 : Below w.heap.size w w1 := hb0.trans (hb1.mono hb0.size)
  have ro0 : Rd w1 (some ⟨w.heap.size, 0, none⟩) [t] := (rd_of_owns ho0 rfl).below hb1
  have ro1 : Rd w1 ao1 (lenT n) := rd_of_owns hown1 hN1.out.symm
  have hn1 := owns_none hown1
  clear hlt
  go_wp2_with fail
  refine (cat2 _ _ 1 N1 1 c1 [t] (lenT n) w1 rfl hN1.out.symm ro0 ro1 (fun h => by cases h) (fun h => (hn1 h).1) (by omega)).mono ?_
  rintro e w2 ⟨ao2, c2, rfl, hown2, hb2⟩
  have hB2 : Below w.heap.size w w2 := hB1.trans (hb2.mono hB1.size)
  have ro2 := rd_of_owns hown2 (by simp; have := hN1.out; omega)
  have hn2 := owns_none hown2
  clear ro0 ro1 hown1 ho0 hb0 hb1
  go_wp2_with fail
  refine (cat2 _ _ (1 + N1) n c2 c ([t] ++ lenT n) l w2 (by simp; have := hN1.out; omega) HL.out ro2 (ra.below hB2) (fun h => (hn2 h).1) NA.out (by omega)).mono ?_
  rintro e w3 ⟨ao3, c3, rfl, hown3, hb3⟩
  go_wp2
  go_ret
  refine ⟨ao3, c3, _, ?_, rfl, ?_, hB2.trans (hb3.mono hB2.size)⟩
  · show _ = _
    rw [tlv_length, HL.out, hN1.out]
  · have e := HL.out
    rw [tlv, e]
    exact owns_mono hown3 hB2.size

/-- A string's bytes. -/
def sb (s : ByteArray) : List Int := s.data.toList.map fun b => (b.toNat : Int)
theorem sb_length (s : ByteArray) : (sb s).length = s.size := by
  unfold sb
  rw [List.length_map, Array.length_toList]
  rfl
theorem U_sb (s : ByteArray) : U (sb s) = byteCells s := by simp [U, sb, byteCells]
theorem sb_get (s : ByteArray) (i : Nat) (h : i < s.size) : (sb s).getD i 0 = (s[i].toNat : Int) := by
  have h' : i < s.data.size := h
  have e : s.data[i]? = some s.data[i] := Array.getElem?_eq_getElem h'
  simp [sb, List.getD, e]
  rfl

set_option maxHeartbeats 400000 in
theorem strBytes (s : ByteArray) (w : World) (hs : s.size ≤ 4194304) :
   Calls Try.prog 20 #[.string s] w fun e w' => e = .returned (.slice (some ⟨w.heap.size, 0, none⟩) s.size s.size) ∧
     w'.ownsRow w.heap.size 5 1 (.slice (some ⟨w.heap.size, 0, none⟩) s.size s.size) s.size (U (sb s)) ∧ Below w.heap.size w w' := by
  have hmk := run_make_row' (P := Try.prog) 22 5 (.int .u8 0) 1 Try.underlying22 info5 rfl .i64 .i64 s.size (by omega) (by omega)
  go_enter Try.func20, Try.ntmps20
  go_wp2
  clear hmk
  go_loopg [4] s.size (fun k i wr => ∃ j : Nat, j + k = s.size ∧ i = .int .i64 j ∧ wr.rowIs w.heap.size 5 s.size (fun t => .int .u8 (if t < j then (sb s).getD t 0 else 0)) ∧ Below w.heap.size w wr)
  case atStart => exact ⟨0, by omega, rfl, (World.rowIs_made w _ s.size 5).congr (fun i hi => by simp), (Below.refl _ _).alloc (Nat.le_refl _) _⟩
  case round =>
    obtain ⟨j, hj, rfl, hrow, hbel⟩ := hrel
    by_cases hlt : j < s.size
    · have hf := hrow.frozen j
      have hcj : wr.cell? ⟨w.heap.size, j, none⟩ = some (.int .u8 0) := by have := hrow.cell hlt; simpa using this
      have HS : Hid ((sb s).getD j 0 = (s[j].toNat : Int)) := sb_get s j hlt
      go_wp2
      go_roundg (gk - 1)
      case measure => omega
      case rel =>
        refine ⟨j + 1, by omega, by go_num, (hrow.set j _).congr ?_, hbel.setCell (Nat.le_refl _) _⟩
        intro i hi
        by_cases e : i = j
        · subst e; rw [if_pos rfl, if_pos (by omega), HS.out]
        · rw [if_neg e]; congr 1; split <;> split <;> first | rfl | omega
    · go_wp2
      go_ret
      refine ⟨rfl, owns_of_row (hrow.congr ?_) (sb_length s) (Nat.le_refl _) (by unfold maxLen; omega), hbel⟩
      intro i hi
      rw [if_pos (by omega)]

end Go.Proofs.Qxb6601770a
