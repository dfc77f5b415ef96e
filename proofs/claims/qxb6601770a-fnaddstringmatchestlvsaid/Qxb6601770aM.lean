import Derived.Test.Qxb6601770aL
namespace Go.Proofs.Qxb6601770a
open Go.RowKit
set_option linter.unusedVariables false

theorem bytes17 (a : Option Addr) (len cap : Nat) (t : Int) (s : ByteArray) (w : World) (h : len + s.size ≤ 1048576) :
   Calls Try.prog 17 #[.slice a len cap, .int .u8 t, .string s] w fun e w' => e = .returned (.bool true) ∧ w' = w := by
  go_enter Try.func17, Try.ntmps17
  go_wp2
  go_ret
  exact ⟨rfl, rfl⟩
theorem bytes17_no (a : Option Addr) (len cap : Nat) (t : Int) (s : ByteArray) (w : World) (h0 : len ≤ maxLen) (h1 : s.size ≤ maxLen) (h : 1048576 < len + s.size) :
   Calls Try.prog 17 #[.slice a len cap, .int .u8 t, .string s] w fun e w' => e = .returned (.bool false) ∧ w' = w := by
  unfold maxLen at h0 h1
  by_cases h2 : 1048576 < len
  · go_enter Try.func17, Try.ntmps17
    go_wp2
    go_ret
    exact ⟨rfl, rfl⟩
  · by_cases h3 : 1048576 < s.size
    · go_enter Try.func17, Try.ntmps17
      go_wp2
      go_ret
      exact ⟨rfl, rfl⟩
    · go_enter Try.func17, Try.ntmps17
      go_wp2
      go_ret
      exact ⟨rfl, rfl⟩

set_option maxRecDepth 100000 in
set_option maxHeartbeats 1000000 in
theorem law5 (a : Option Addr) (len cap : Nat) (t : Int) (s : ByteArray) (l : List Int) (w : World) (h : len + s.size ≤ 1048576) (hl : l.length = len) (hn : a = none → len = 0 ∧ cap = 0) (hr : Rd w a l) :
    Calls Try.prog 5 #[.slice a len cap, .int .u8 t, .string s] w fun e w' => e = .returned (.bool true) ∧ Below w.heap.size w w' := by
  have HN : Hid (a = none → len = 0 ∧ cap = 0) := hn
  have HL : Hid (l.length = len) := hl
  clear hn hl
  go_enter Try.func5, Try.ntmps5
  go_wp2_with (go_at_call 17; refine (bytes17 _ _ _ _ _ _ h).mono ?_; rintro e w' ⟨rfl, rfl⟩)
  refine (clone_any a len cap l _ HL.out (by omega) HN.out hr).mono ?_
  rintro e w1 ⟨ao1, c1, rfl, hown1, hb1⟩
  go_wp2_with fail
  refine (clone_any ao1 len c1 l w1 HL.out (by omega) (owns_none hown1) (rd_of_owns hown1 HL.out)).mono ?_
  rintro e w2 ⟨ao2, c2, rfl, hown2, hb2⟩
  go_wp2_with fail
  refine (zzAddString w1.heap.size l len ao2 c2 t s w2 hown2 HL.out hb2.size (by omega) (by omega)).mono ?_
  rintro e w3 ⟨ao3, c3, N3, hN3, rfl, hown3, hb3⟩
  have hB3 : Below w1.heap.size w1 w3 := hb2.trans hb3
  have rb : Rd w3 ao1 l := (rd_of_owns hown1 HL.out).below hB3
  have hn1 := owns_none hown1
  have rg : Rd w3 ao3 (l ++ tlv t (sb s)) := rd_of_owns hown3 hN3.out.symm
  have HB3 : Hid (Below w'.heap.size w' w3) := hb1.trans (hB3.mono hb1.size)
  have htl := tlv_length t (sb s)
  have hlt := lenT_length (sb s).length
  have hsl := sb_length s
  have hN3b : N3 ≤ 2097152 := by rw [hN3.out, List.length_append, HL.out]; omega
  have HT : Hid ((tlv t (sb s)).length = 1 + (lenT (sb s).length).length + (sb s).length ∧ (sb s).length = s.size ∧ (lenT (sb s).length).length ≤ 4) := ⟨htl, hsl, hlt.2⟩
  clear hown1 hown2 hown3 hb1 hb2 hb3 hB3 hr htl hlt hsl
  go_wp2_with fail
  refine (strBytes s w3 (by omega)).mono ?_
  rintro e w4 ⟨rfl, hown4, hb4⟩
  go_wp2_with fail
  refine (zzTLV t _ s.size s.size (sb s) w4 HT.out.2.1 (by omega) (rd_of_owns hown4 HT.out.2.1) (fun h => by cases h)).mono ?_
  rintro e w5 ⟨ao5, c5, N5, hN5, rfl, hown5, hb5⟩
  have hB5 := hb4.trans (hb5.mono hb4.size)
  have r5 := rd_of_owns hown5 hN5.out.symm
  have hn5 := owns_none hown5
  have hN5b : N5 ≤ 1048581 := by rw [hN5.out]; have := HT.out; omega
  clear hown4 hown5
  go_wp2_with fail
  refine (cat2 ao1 ao5 len N5 c1 c5 l (tlv t (sb s)) w5 HL.out hN5.out.symm (rb.below hB5) r5 (fun h => (hn1 h).1) (fun h => (hn5 h).1) (by omega)).mono ?_
  rintro e w6 ⟨ao6, c6, rfl, hown6, hb6⟩
  have hB6 := hB5.trans (hb6.mono hB5.size)
  have hNe : len + N5 = N3 := by rw [hN3.out, hN5.out, List.length_append, HL.out]
  rw [hNe] at hown6
  have HNE : Hid (len + N5 = N3) := hNe
  have r6 := rd_of_owns hown6 hN3.out.symm
  clear hown6 hNe
  go_wp2_with fail
  rw [HNE.out]
  refine (eq_same ao3 ao6 N3 c3 c6 (l ++ tlv t (sb s)) w6 hN3.out.symm (by omega) (rg.below hB6) r6).mono ?_
  rintro e w7 ⟨rfl, k7, rfl⟩
  go_wp2
  go_ret
  exact ⟨rfl, below_drewN (HB3.out.trans (hB6.mono HB3.out.size)) _⟩

theorem law5_no (a : Option Addr) (len cap : Nat) (t : Int) (s : ByteArray) (w : World) (h0 : len ≤ maxLen) (h1 : s.size ≤ maxLen) (h : 1048576 < len + s.size) :
    Calls Try.prog 5 #[.slice a len cap, .int .u8 t, .string s] w fun e w' => e = .returned (.bool true) ∧ Below w.heap.size w w' := by
  go_enter Try.func5, Try.ntmps5
  go_wp2_with (go_at_call 17; refine (bytes17_no _ _ _ _ _ _ h0 h1 h).mono ?_; rintro e w' ⟨rfl, rfl⟩)
  go_ret
  exact ⟨rfl, Below.refl _ _⟩

theorem law5_any (a : Option Addr) (len cap : Nat) (t : Int) (s : ByteArray) (l : List Int) (w : World) (h0 : len ≤ maxLen) (h1 : s.size ≤ maxLen) (hl : l.length = len) (hn : a = none → len = 0 ∧ cap = 0) (hr : Rd w a l) :
    Calls Try.prog 5 #[.slice a len cap, .int .u8 t, .string s] w fun e w' => e = .returned (.bool true) ∧ Below w.heap.size w w' := by
  by_cases h : len + s.size ≤ 1048576
  · exact law5 a len cap t s l w h hl hn hr
  · exact law5_no a len cap t s w h0 h1 (by omega)

end Go.Proofs.Qxb6601770a
