import Derived.Test.Qxb6601770aJ
namespace Go.Proofs.Qxb6601770a
open Go.RowKit
set_option linter.unusedVariables false

theorem bytes9 (a : Option Addr) (len cap : Nat) (x : Int) (w : World) (h : len ≤ 1048576) :
   Calls Try.prog 9 #[.slice a len cap, .int .i64 x] w fun e w' => e = .returned (.bool true) ∧ w' = w := by
  go_enter Try.func9, Try.ntmps9
  go_wp2
  go_ret
  exact ⟨rfl, rfl⟩
theorem bytes9_no (a : Option Addr) (len cap : Nat) (x : Int) (w : World) (h : 1048576 < len) :
   Calls Try.prog 9 #[.slice a len cap, .int .i64 x] w fun e w' => e = .returned (.bool false) ∧ w' = w := by
  go_enter Try.func9, Try.ntmps9
  go_wp2
  go_ret
  exact ⟨rfl, rfl⟩

theorem lenTable_at (x : Int) (n : Nat) (w : World) (hx : x = n) (h : n < 16777216) :
    Calls Try.prog 13 #[.int .i64 x] w fun e w' => ∃ ao c N, Hid (N = (lenT n).length) ∧ e = .returned (.slice ao N c) ∧ w'.ownsRow w.heap.size 5 1 (.slice ao N c) N (U (lenT n)) ∧ Below w.heap.size w w' := by
  subst hx
  exact lenTable_own n w h

theorem below_of_drew {w w' : World} (h : Below w.drew.heap.size w.drew w') : Below w.heap.size w w' := ⟨h.os, h.tape, h.output, h.size, h.block⟩

theorem Rd.take {w : World} {a : Option Addr} {l : List Int} (h : Rd w a l) (k : Nat) : Rd w a (l.take k) := by
  intro i hi
  simp at hi
  obtain ⟨b, off, ha, hc⟩ := h i (by omega)
  refine ⟨b, off, ha, hc.trans ?_⟩
  simp only [List.getD, List.getElem?_take]
  rw [if_pos (by omega)]

theorem Rd.drop {w : World} {b off : Nat} {l : List Int} (h : Rd w (some ⟨b, off, none⟩) l) (k : Nat) : Rd w (some ⟨b, off + k, none⟩) (l.drop k) := by
  intro i hi
  simp at hi
  obtain ⟨b', off', ha, hc⟩ := h (k + i) (by omega)
  simp at ha
  obtain ⟨rfl, rfl⟩ := ha
  refine ⟨b, off + k, rfl, ?_⟩
  rw [Nat.add_assoc]
  refine hc.trans ?_
  simp only [List.getD, List.getElem?_drop]

set_option maxRecDepth 100000 in
set_option maxHeartbeats 1000000 in
theorem law3 (a : Option Addr) (len cap s : Nat) (l : List Int) (w : World) (h : len ≤ 1048576) (h1 : 1 ≤ s) (h2 : s ≤ len) (hl : l.length = len) (hn : a = none → len = 0 ∧ cap = 0) (hr : Rd w a l) :
    Calls Try.prog 3 #[.slice a len cap, .int .i64 (s : Int)] w fun e w' => e = .returned (.bool true) ∧ Below w.heap.size w w' := by
  have HN : Hid (a = none → len = 0 ∧ cap = 0) := hn
  have HL : Hid (l.length = len) := hl
  clear hn hl
  have i1 : (1 : Int) ≤ (s : Int) := by omega
  have i2 : (s : Int) ≤ (len : Int) := by omega
  go_enter Try.func3, Try.ntmps3
  go_wp2_with (go_at_call 9; refine (bytes9 _ _ _ _ _ (by omega)).mono ?_; rintro e w' ⟨rfl, rfl⟩)
  refine (clone_any a len cap l _ HL.out (by omega) HN.out hr).mono ?_
  rintro e w1 ⟨ao1, c1, rfl, hown1, hb1⟩
  go_wp2_with fail
  refine (clone_any ao1 len c1 l w1 HL.out (by omega) (owns_none hown1) (rd_of_owns hown1 HL.out)).mono ?_
  rintro e w2 ⟨ao2, c2, rfl, hown2, hb2⟩
  go_wp2_with fail
  refine (zzEnd w1.heap.size l len ao2 c2 s w2 hown2 HL.out hb2.size (by omega) h1 h2).mono ?_
  rintro e w3 ⟨ao3, c3, N3, hN3, rfl, hown3, hb3⟩
  have hB3 : Below w1.heap.size w1 w3 := hb2.trans hb3
  obtain ⟨g1, cur1, rfl, hgb1, hgc1, hc1, hcm1, hcs1, _⟩ := owns_shape hown1 (by omega)
  have rb : Rd w3 (some ⟨g1, 0, none⟩) l := (rd_of_owns hown1 HL.out).below hB3
  have rg : Rd w3 ao3 (endL l s) := rd_of_owns hown3 hN3.out.symm
  have rt : Rd w3 (some ⟨g1, 0, none⟩) (l.take (s - 1)) := rb.take _
  have htl : (l.take (s - 1)).length = s - 1 := by rw [List.length_take, HL.out]; omega
  have hdl : (l.drop s).length = len - s := by rw [List.length_drop, HL.out]
  have HTL : Hid ((l.take (s - 1)).length = s - 1) := htl
  have HDL : Hid ((l.drop s).length = len - s) := hdl
  have HB3 : Hid (Below w'.heap.size w' w3) := hb1.trans (hB3.mono hb1.size)
  have rdrop : (c1 = s → Rd w3 (some ⟨g1, 0, none⟩) (l.drop s)) ∧ (c1 ≠ s → Rd w3 (some ⟨g1, s, none⟩) (l.drop s)) := by
    refine ⟨fun e => ?_, fun _ => ?_⟩
    · rw [List.drop_eq_nil_of_le (by have := HL.out; omega)]; exact Rd.nil _ _
    · have := rb.drop s; simpa using this
  have hc1' : s ≤ c1 := by omega
  have hc1p : c1 ≠ 0 := by omega
  clear hown1 hown2 hown3 hb1 hb2 hb3 hB3 hr htl hdl rb
  go_wp2
  have q1 : (0 : Int) ≤ (s : Int) - 1 := by omega
  have q2 : (s : Int) - 1 ≤ (c1 : Int) := by omega
  have q3 : IntKind.i64.wrap ((s : Int) - 1) = (s : Int) - 1 := by rw [IntKind.wrap_i64]; omega
  have q4 : ((s : Int) - 1).toNat = s - 1 := by omega
  have hlt := lenT_length (len - s)
  have q5 : (s : Int) ≤ (c1 : Int) + 1 := by omega
  have q6 : (s : Int) - 1 ≤ (c1 : Int) := by omega
  by_cases hcs : c1 = s
  · clear rdrop
    obtain rfl : s = len := by omega
    have hcs' := hcs.symm
    subst hcs'
    go_region_held3 (fun _ => True) (trivial) ((first
      | (go_at_call 13; refine (lenTable_at _ (0) _ (by omega) (by omega)).mono ?_; rintro e w4 ⟨ao4, c4, N4, hN4, rfl, hown4, hb4⟩; have hb4' := below_of_drew hb4; have ro4 := rd_of_owns hown4 hN4.out.symm; have hn4 := owns_none hown4; have hN4b : 1 ≤ N4 ∧ N4 ≤ 4 := by (rw [hN4.out]; exact lenT_length _))
      | (go_at_call_of 12 (Value.slice ao4 N4 c4); refine (cat2 _ _ (s - 1) N4 _ c4 (l.take (s - 1)) (lenT (0)) _ HTL.out hN4.out.symm (rt.below hb4') ro4 (fun h => by cases h) (fun h => (hn4 h).1) (by omega)).mono ?_; rintro e w5 ⟨ao5, c5, rfl, hown5, hb5⟩; have hb5' := hb4'.trans (hb5.mono hb4'.size); have ro5 := rd_of_owns hown5 (by rw [List.length_append, HTL.out, hN4.out]); have hn5 := owns_none hown5)
      | (go_at_call 12; refine (cat2 _ _ (s - 1 + N4) 0 c5 _ (l.take (s - 1) ++ lenT 0) [] _ (by rw [List.length_append, HTL.out, hN4.out]) rfl ro5 (Rd.nil _ _) (fun h => (hn5 h).1) (fun h => by cases h) (by omega)).mono ?_; rintro e w6 ⟨ao6, c6, rfl, hown6, hb6⟩)))
    have hb6' := hb5'.trans (hb6.mono hb5'.size)
    have hEe : l.take (s - 1) ++ lenT (0) ++ [] = endL l s := by rw [endL, HL.out]; simp [List.drop_eq_nil_of_le, HL.out]
    have hNe : s - 1 + N4 + (0) = N3 := by
      have e := hN3.out
      rw [endL_length l s h1 (by have := HL.out; omega), HL.out, Nat.sub_self, ← hN4.out] at e
      omega
    rw [hEe] at hown6
    have rw6 := rd_of_owns hown6 (by rw [hNe, hN3.out])
    have HNE : Hid (s - 1 + N4 + (0) = N3) := hNe
    clear hown6 hown5 hown4 ro4 ro5 hEe hNe
    go_wp2_with fail
    rw [show s - 1 + N4 = N3 from HNE.out]
    refine (eq_same ao3 ao6 N3 c3 c6 (endL l s) w6 hN3.out.symm (by have := HNE.out; omega) (rg.below hb6') rw6).mono ?_
    rintro e w7 ⟨rfl, k7, rfl⟩
    go_wp2
    go_ret
    exact ⟨rfl, below_drewN (HB3.out.trans (hb6'.mono HB3.out.size)) _⟩
  · have rd := rdrop.2 hcs
    clear rdrop
    go_region_held3 (fun _ => True) (trivial) ((first
      | (go_at_call 13; refine (lenTable_at _ (len - s) _ (by omega) (by omega)).mono ?_; rintro e w4 ⟨ao4, c4, N4, hN4, rfl, hown4, hb4⟩; have hb4' := below_of_drew hb4; have ro4 := rd_of_owns hown4 hN4.out.symm; have hn4 := owns_none hown4; have hN4b : 1 ≤ N4 ∧ N4 ≤ 4 := by (rw [hN4.out]; exact lenT_length _))
      | (go_at_call_of 12 (Value.slice ao4 N4 c4); refine (cat2 _ _ (s - 1) N4 _ c4 (l.take (s - 1)) (lenT (len - s)) _ HTL.out hN4.out.symm (rt.below hb4') ro4 (fun h => by cases h) (fun h => (hn4 h).1) (by omega)).mono ?_; rintro e w5 ⟨ao5, c5, rfl, hown5, hb5⟩; have hb5' := hb4'.trans (hb5.mono hb4'.size); have ro5 := rd_of_owns hown5 (by rw [List.length_append, HTL.out, hN4.out]); have hn5 := owns_none hown5)
      | (go_at_call 12; refine (cat2 _ _ (s - 1 + N4) (len - s) c5 _ (l.take (s - 1) ++ lenT (len - s)) (l.drop s) _ (by rw [List.length_append, HTL.out, hN4.out]) HDL.out ro5 (rd.below hb5') (fun h => (hn5 h).1) (fun h => by cases h) (by omega)).mono ?_; rintro e w6 ⟨ao6, c6, rfl, hown6, hb6⟩)))
    have hb6' := hb5'.trans (hb6.mono hb5'.size)
    have hEe : l.take (s - 1) ++ lenT (len - s) ++ l.drop s = endL l s := by rw [endL, HL.out]
    have hNe : s - 1 + N4 + (len - s) = N3 := by
      have e := hN3.out
      rw [endL_length l s h1 (by have := HL.out; omega), HL.out, ← hN4.out] at e
      omega
    rw [hEe] at hown6
    have rw6 := rd_of_owns hown6 (by rw [hNe, hN3.out])
    have HNE : Hid (s - 1 + N4 + (len - s) = N3) := hNe
    clear hown6 hown5 hown4 ro4 ro5 hEe hNe
    go_wp2_with fail
    rw [HNE.out]
    refine (eq_same ao3 ao6 N3 c3 c6 (endL l s) w6 hN3.out.symm (by have := HNE.out; omega) (rg.below hb6') rw6).mono ?_
    rintro e w7 ⟨rfl, k7, rfl⟩
    go_wp2
    go_ret
    exact ⟨rfl, below_drewN (HB3.out.trans (hb6'.mono HB3.out.size)) _⟩

theorem law3_no (a : Option Addr) (len cap : Nat) (x : Int) (w : World) (h : 1048576 < len) :
    Calls Try.prog 3 #[.slice a len cap, .int .i64 x] w fun e w' => e = .returned (.bool true) ∧ Below w.heap.size w w' := by
  go_enter Try.func3, Try.ntmps3
  go_wp2_with (go_at_call 9; refine (bytes9_no _ _ _ _ _ h).mono ?_; rintro e w' ⟨rfl, rfl⟩)
  go_ret
  exact ⟨rfl, Below.refl _ _⟩
theorem law3_low (a : Option Addr) (len cap : Nat) (x : Int) (w : World) (h : len ≤ 1048576) (h2 : x < 1) :
    Calls Try.prog 3 #[.slice a len cap, .int .i64 x] w fun e w' => e = .returned (.bool true) ∧ Below w.heap.size w w' := by
  go_enter Try.func3, Try.ntmps3
  go_wp2_with (go_at_call 9; refine (bytes9 _ _ _ _ _ h).mono ?_; rintro e w' ⟨rfl, rfl⟩)
  go_ret
  exact ⟨rfl, Below.refl _ _⟩
theorem law3_high (a : Option Addr) (len cap : Nat) (x : Int) (w : World) (h : len ≤ 1048576) (h2 : 1 ≤ x) (h3 : (len : Int) < x) :
    Calls Try.prog 3 #[.slice a len cap, .int .i64 x] w fun e w' => e = .returned (.bool true) ∧ Below w.heap.size w w' := by
  go_enter Try.func3, Try.ntmps3
  go_wp2_with (go_at_call 9; refine (bytes9 _ _ _ _ _ h).mono ?_; rintro e w' ⟨rfl, rfl⟩)
  go_ret
  exact ⟨rfl, Below.refl _ _⟩

theorem law3_any (a : Option Addr) (len cap : Nat) (x : Int) (l : List Int) (w : World) (hl : l.length = len) (hn : a = none → len = 0 ∧ cap = 0) (hr : Rd w a l) :
    Calls Try.prog 3 #[.slice a len cap, .int .i64 x] w fun e w' => e = .returned (.bool true) ∧ Below w.heap.size w w' := by
  by_cases h1 : len ≤ 1048576
  · by_cases h2 : x < 1
    · exact law3_low a len cap x w h1 h2
    · by_cases h3 : (len : Int) < x
      · exact law3_high a len cap x w h1 (by omega) h3
      · obtain ⟨s, rfl⟩ : ∃ s : Nat, x = s := ⟨x.toNat, by omega⟩
        exact law3 a len cap s l w h1 (by omega) (by omega) hl hn hr
  · exact law3_no a len cap x w (by omega)
end Go.Proofs.Qxb6601770a
