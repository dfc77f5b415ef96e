import Derived.Test.Qxb6601770aL
namespace Go.Proofs.Qxb6601770a
open Go.RowKit
set_option linter.unusedVariables false

theorem bytes21 (a : Option Addr) (len cap : Nat) (t : Int) (s : ByteArray) (w : World) (h : len + s.size ≤ 1048576) :
   Calls Try.prog 21 #[.slice a len cap, .int .u8 t, .string s] w fun e w' => e = .returned (.bool true) ∧ w' = w := by
  go_enter Try.func21, Try.ntmps21
  go_wp2
  go_ret
  exact ⟨rfl, rfl⟩
theorem bytes21_no (a : Option Addr) (len cap : Nat) (t : Int) (s : ByteArray) (w : World) (h0 : len ≤ maxLen) (h1 : s.size ≤ maxLen) (h : 1048576 < len + s.size) :
   Calls Try.prog 21 #[.slice a len cap, .int .u8 t, .string s] w fun e w' => e = .returned (.bool false) ∧ w' = w := by
  unfold maxLen at h0 h1
  by_cases h2 : 1048576 < len
  · go_enter Try.func21, Try.ntmps21
    go_wp2
    go_ret
    exact ⟨rfl, rfl⟩
  · by_cases h3 : 1048576 < s.size
    · go_enter Try.func21, Try.ntmps21
      go_wp2
      go_ret
      exact ⟨rfl, rfl⟩
    · go_enter Try.func21, Try.ntmps21
      go_wp2
      go_ret
      exact ⟨rfl, rfl⟩

/-- The strict reader at an element's length. -/
theorem readTLV (x : Int) (a : Option Addr) (l : List Int) (t : Int) (c : List Int) (N n nx L cp : Nat) (w : World) (hx : x = ((N + 1 : Nat) : Int)) (hl : l.length = N) (hn : c.length = n) (hnx : nx = N + 1 + (lenT n).length) (hL : (l ++ tlv t c).length = L) (hb : N + n ≤ 4194304) (hr : Rd w a (l ++ tlv t c)) :
    Calls Try.prog 16 #[.slice a L cp, .int .i64 x] w fun e w' => e = .returned (.tuple #[.int .i64 (n : Int), .int .i64 (nx : Int), .bool true]) ∧ w' = w := by
  subst hx
  subst hnx
  have e : l ++ tlv t c = (l ++ [t]) ++ lenT n ++ c := by rw [tlv, hn]; simp
  have hlt := lenT_length n
  rw [e] at hL hr
  exact readLen a (l ++ [t]) c n (N + 1) L cp w (by simp; omega) hL (by omega) (by rw [← hL]; simp; omega) hr

theorem tlv_lo (l : List Int) (t : Int) (c : List Int) (i : Nat) (h : i < l.length) : (l ++ tlv t c).getD i 0 = l.getD i 0 := by
  simp only [List.getD]
  rw [List.getElem?_append_left h]
theorem tlv_tag (l : List Int) (t : Int) (c : List Int) (N : Nat) (h : l.length = N) : (l ++ tlv t c).getD N 0 = t := by
  subst h
  simp [List.getD, tlv]
theorem tlv_hi (l : List Int) (t : Int) (c : List Int) (N n nx j : Nat) (hl : l.length = N) (hn : c.length = n) (hnx : nx = N + 1 + (lenT n).length) : (l ++ tlv t c).getD (nx + j) 0 = c.getD j 0 := by
  have e : l ++ tlv t c = ((l ++ [t]) ++ lenT n) ++ c := by rw [tlv, hn]; simp
  have e2 : ((l ++ [t]) ++ lenT n).length = nx := by simp; omega
  rw [e]
  simp only [List.getD]
  rw [List.getElem?_append_right (by omega), e2, Nat.add_sub_cancel_left]

set_option maxRecDepth 100000 in
set_option maxHeartbeats 1000000 in
theorem law6 (a : Option Addr) (len cap : Nat) (t : Int) (s : ByteArray) (l : List Int) (w : World) (h : len + s.size ≤ 1048576) (hl : l.length = len) (hn : a = none → len = 0 ∧ cap = 0) (hr : Rd w a l) :
    Calls Try.prog 6 #[.slice a len cap, .int .u8 t, .string s] w fun e w' => e = .returned (.bool true) ∧ Below w.heap.size w w' := by
  have HN : Hid (a = none → len = 0 ∧ cap = 0) := hn
  have HL : Hid (l.length = len) := hl
  clear hn hl
  go_enter Try.func6, Try.ntmps6
  go_wp2_with (go_at_call 21; refine (bytes21 _ _ _ _ _ _ h).mono ?_; rintro e w' ⟨rfl, rfl⟩)
  refine (clone_any a len cap l _ HL.out (by omega) HN.out hr).mono ?_
  rintro e w1 ⟨ao1, c1, rfl, hown1, hb1⟩
  go_wp2_with fail
  refine (clone_any ao1 len c1 l w1 HL.out (by omega) (owns_none hown1) (rd_of_owns hown1 HL.out)).mono ?_
  rintro e w2 ⟨ao2, c2, rfl, hown2, hb2⟩
  go_wp2_with fail
  refine (zzAddString w1.heap.size l len ao2 c2 t s w2 hown2 HL.out hb2.size (by omega) (by omega)).mono ?_
  rintro e w3 ⟨ao3, c3, N3, hN3, rfl, hown3, hb3⟩
  have hB3 : Below w1.heap.size w1 w3 := hb2.trans hb3
  have rb : Rd w3 ao1 l := (rd_of_owns hown1 HL.out).below hB3
  have rg : Rd w3 ao3 (l ++ tlv t (sb s)) := rd_of_owns hown3 hN3.out.symm
  have HB3 : Hid (Below w'.heap.size w' w3) := hb1.trans (hB3.mono hb1.size)
  obtain ⟨nx, hnx⟩ : ∃ nx, nx = len + 1 + (lenT s.size).length := ⟨_, rfl⟩
  have hlt := lenT_length s.size
  have hN3' : N3 = nx + s.size := by rw [hN3.out, List.length_append, HL.out, tlv_length, sb_length]; omega
  have f1 : (nx : Int) + s.size ≤ N3 := by omega
  have f2 : (N3 : Int) ≤ nx + s.size := by omega
  have f3 : (len : Int) + 2 ≤ nx := by omega
  have f4 : (nx : Int) ≤ len + 5 := by omega
  have FF : Hid (nx = len + 1 + (lenT s.size).length ∧ N3 = nx + s.size) := ⟨hnx, hN3'⟩
  obtain ⟨b3, o3, rfl, x3⟩ := rg.at (by rw [← hN3.out]; omega)
  have ctag : w3.cell? ⟨b3, o3 + len, none⟩ = some (.int .u8 t) := by
    rw [x3 len (by rw [← hN3.out]; omega), tlv_tag l t (sb s) len HL.out]
  clear hown1 hown2 hown3 hb1 hb2 hb3 hB3 hr hlt hnx hN3' x3
  go_wp2
  go_loopg [8] len (fun g i wx => ∃ t : Nat, t + g = len ∧ i = .int .i64 t ∧ ∃ d, wx = w3.drewN d)
  case atStart => exact ⟨0, by omega, rfl, 0, rfl⟩
  case round =>
    obtain ⟨q, hq, rfl, d, rfl⟩ := hrel
    by_cases hlt : q < len
    · obtain ⟨b1, o1, rfl, x1⟩ := rb q (by have := HL.out; omega)
      obtain ⟨b3', o3', he, x3⟩ := rg q (by rw [← hN3.out]; omega)
      simp at he
      obtain ⟨rfl, rfl⟩ := he
      rw [tlv_lo l t (sb s) q (by have := HL.out; omega)] at x3
      obtain ⟨y, hy⟩ : ∃ y, y = l.getD q 0 := ⟨_, rfl⟩
      rw [← hy] at x1 x3
      have p1 : (0 : Int) ≤ (q : Int) := by omega
      have p2 : (q : Int) < (len : Int) := by omega
      have p3 : (q : Int) < (N3 : Int) := by omega
      clear hy rb rg ctag
      go_wp2_with fail
      go_quiet (fail)
      go_wp2
      go_roundg (gk - 1)
      case measure => omega
      case rel => exact ⟨q + 1, by omega, by go_num, _, rfl⟩
    · have RG : Hid (Rd w3 (some ⟨b3, o3, none⟩) (l ++ tlv t (sb s))) := rg
      have ctd : (w3.drewN d).cell? ⟨b3, o3 + len, none⟩ = some (.int .u8 t) := ctag
      clear rb rg
      go_wp2_with fail
      refine (readTLV _ (some ⟨b3, o3, none⟩) l t (sb s) len s.size nx N3 c3 _ (by omega) HL.out (sb_length s) FF.out.1 hN3.out.symm (by omega) (RG.out.drewN d)).mono ?_
      rintro e w4 ⟨rfl, rfl⟩
      go_wp2
      go_loopg [12] s.size (fun g i wx => ∃ t : Nat, t + g = s.size ∧ i = .int .i64 t ∧ ∃ d, wx = w3.drewN d)
      case atStart => exact ⟨0, by omega, rfl, d, rfl⟩
      case round =>
        obtain ⟨q, hq, rfl, d, rfl⟩ := hrel
        by_cases hlt : q < s.size
        · obtain ⟨b3', o3', he, x3⟩ := RG.out (nx + q) (by rw [← hN3.out]; have := FF.out.2; omega)
          simp at he
          obtain ⟨rfl, rfl⟩ := he
          rw [tlv_hi l t (sb s) len s.size nx q HL.out (sb_length s) FF.out.1, sb_get s q hlt] at x3
          have p1 : (0 : Int) ≤ (q : Int) := by omega
          have p2 : (q : Int) < (s.size : Int) := by omega
          have p3 : (nx : Int) + (q : Int) < (N3 : Int) := by omega
          go_wp2_with fail
          go_quiet (fail)
          go_wp2
          go_roundg (gk - 1)
          case measure => omega
          case rel => exact ⟨q + 1, by omega, by go_num, _, rfl⟩
        · go_wp2
          go_ret
          exact ⟨rfl, below_drewN HB3.out d⟩

theorem law6_no (a : Option Addr) (len cap : Nat) (t : Int) (s : ByteArray) (w : World) (h0 : len ≤ maxLen) (h1 : s.size ≤ maxLen) (h : 1048576 < len + s.size) :
    Calls Try.prog 6 #[.slice a len cap, .int .u8 t, .string s] w fun e w' => e = .returned (.bool true) ∧ Below w.heap.size w w' := by
  go_enter Try.func6, Try.ntmps6
  go_wp2_with (go_at_call 21; refine (bytes21_no _ _ _ _ _ _ h0 h1 h).mono ?_; rintro e w' ⟨rfl, rfl⟩)
  go_ret
  exact ⟨rfl, Below.refl _ _⟩

theorem law6_any (a : Option Addr) (len cap : Nat) (t : Int) (s : ByteArray) (l : List Int) (w : World) (h0 : len ≤ maxLen) (h1 : s.size ≤ maxLen) (hl : l.length = len) (hn : a = none → len = 0 ∧ cap = 0) (hr : Rd w a l) :
    Calls Try.prog 6 #[.slice a len cap, .int .u8 t, .string s] w fun e w' => e = .returned (.bool true) ∧ Below w.heap.size w w' := by
  by_cases h : len + s.size ≤ 1048576
  · exact law6 a len cap t s l w h hl hn hr
  · exact law6_no a len cap t s w h0 h1 (by omega)

end Go.Proofs.Qxb6601770a
