import Derived.Test.Qxb6601770aI
namespace Go.Proofs.Qxb6601770a
open Go.RowKit
set_option linter.unusedVariables false

theorem bytes15 (a : Option Addr) (len cap : Nat) (x : Int) (w : World) (h : len ≤ 1048576) :
   Calls Try.prog 15 #[.slice a len cap, .int .i64 x] w fun e w' => e = .returned (.bool true) ∧ w' = w := by
  go_enter Try.func15, Try.ntmps15
  go_wp2
  go_ret
  exact ⟨rfl, rfl⟩
theorem bytes15_no (a : Option Addr) (len cap : Nat) (x : Int) (w : World) (h : 1048576 < len) :
   Calls Try.prog 15 #[.slice a len cap, .int .i64 x] w fun e w' => e = .returned (.bool false) ∧ w' = w := by
  go_enter Try.func15, Try.ntmps15
  go_wp2
  go_ret
  exact ⟨rfl, rfl⟩

/-- Ahead of the length nothing has changed. -/
theorem endL_lo (l : List Int) (s t : Nat) (h1 : t + 1 < s) (h2 : s ≤ l.length) : (endL l s).getD t 0 = l.getD t 0 := by
  have e : t < (l.take (s - 1)).length := by simp; omega
  simp only [endL, List.getD, List.append_assoc]
  rw [List.getElem?_append_left e, List.getElem?_take, if_pos (by omega)]

/-- Behind it the contents follow. -/
theorem endL_hi (l : List Int) (s t nx : Nat) (h1 : 1 ≤ s) (h2 : s + t < l.length) (hnx : nx = s - 1 + (lenT (l.length - s)).length) : (endL l s).getD (nx + t) 0 = l.getD (s + t) 0 := by
  have e : (l.take (s - 1) ++ lenT (l.length - s)).length = nx := by simp; omega
  simp only [endL, List.getD]
  rw [List.getElem?_append_right (by omega), e, Nat.add_sub_cancel_left, List.getElem?_drop]

theorem readEnd (a : Option Addr) (l : List Int) (s L c n nx : Nat) (w : World) (h1 : 1 ≤ s) (h2 : s ≤ l.length) (hn : l.length - s = n) (hnx : nx = s - 1 + (lenT n).length) (hL : (endL l s).length = L) (hb : l.length ≤ 8388608) (hr : Rd w a (endL l s)) :
    Calls Try.prog 16 #[.slice a L c, .int .i64 ((s : Int) - 1)] w fun e w' => e = .returned (.tuple #[.int .i64 (n : Int), .int .i64 (nx : Int), .bool true]) ∧ w' = w := by
  have hle := endL_length l s h1 h2
  have hlt := lenT_length (l.length - s)
  subst hn
  subst hnx
  rw [show (s : Int) - 1 = ((s - 1 : Nat) : Int) by omega]
  exact readLen a (l.take (s - 1)) (l.drop s) (l.length - s) (s - 1) L c w (by simp; omega) hL (by omega) (by omega) hr

set_option maxRecDepth 100000 in
set_option maxHeartbeats 1000000 in
theorem law4 (a : Option Addr) (len cap s : Nat) (l : List Int) (w : World) (h : len ≤ 1048576) (h1 : 1 ≤ s) (h2 : s ≤ len) (hl : l.length = len) (hn : a = none → len = 0 ∧ cap = 0) (hr : Rd w a l) :
    Calls Try.prog 4 #[.slice a len cap, .int .i64 (s : Int)] w fun e w' => e = .returned (.bool true) ∧ Below w.heap.size w w' := by
  have HN : Hid (a = none → len = 0 ∧ cap = 0) := hn
  have HL : Hid (l.length = len) := hl
  clear hn hl
  have i1 : (1 : Int) ≤ (s : Int) := by omega
  have i2 : (s : Int) ≤ (len : Int) := by omega
  go_enter Try.func4, Try.ntmps4
  go_wp2_with (go_at_call 15; refine (bytes15 _ _ _ _ _ (by omega)).mono ?_; rintro e w' ⟨rfl, rfl⟩)
  refine (clone_any a len cap l _ HL.out (by omega) HN.out hr).mono ?_
  rintro e w1 ⟨ao1, c1, rfl, hown1, hb1⟩
  go_wp2_with fail
  refine (clone_any ao1 len c1 l w1 HL.out (by omega) (owns_none hown1) (rd_of_owns hown1 HL.out)).mono ?_
  rintro e w2 ⟨ao2, c2, rfl, hown2, hb2⟩
  go_wp2_with fail
  refine (zzEnd w1.heap.size l len ao2 c2 s w2 hown2 HL.out hb2.size (by omega) h1 h2).mono ?_
  rintro e w3 ⟨ao3, c3, N3, hN3, rfl, hown3, hb3⟩
  have hB3 : Below w1.heap.size w1 w3 := hb2.trans hb3
  have rg : Rd w3 ao3 (endL l s) := rd_of_owns hown3 hN3.out.symm
  have rb : Rd w3 ao1 l := (rd_of_owns hown1 HL.out).below hB3
  obtain ⟨n, hn⟩ : ∃ n, len - s = n := ⟨_, rfl⟩
  obtain ⟨nx, hnx⟩ : ∃ nx, nx = s - 1 + (lenT n).length := ⟨_, rfl⟩
  have hlt := lenT_length n
  have f1 : (s : Int) + n ≤ len ∧ (len : Int) ≤ s + n := by omega
  have hN3' : N3 = nx + n := by
    have := endL_length l s h1 (by have := HL.out; omega)
    have h3 := hN3.out
    have h4 := HL.out
    rw [h4, hn] at this
    omega
  have f2 : (nx : Int) + n ≤ N3 ∧ (N3 : Int) ≤ nx + n := by omega
  have f3 : (s : Int) ≤ nx ∧ (nx : Int) ≤ s + 3 := by omega
  have HB : Hid (Below w'.heap.size w' w3) := hb1.trans (hB3.mono hb1.size)
  have FF : Hid (len - s = n ∧ nx = s - 1 + (lenT n).length ∧ N3 = nx + n) := ⟨hn, hnx, hN3'⟩
  obtain ⟨f11, f12⟩ := f1
  obtain ⟨f21, f22⟩ := f2
  obtain ⟨f31, f32⟩ := f3
  clear hown1 hown2 hown3 hb1 hb2 hb3 hB3 hr hn hnx hN3' hlt
  go_wp2_with fail
  refine (readEnd ao3 l s N3 c3 n nx w3 h1 (by have := HL.out; omega) (by rw [HL.out]; exact FF.out.1) FF.out.2.1 hN3.out.symm (by have := HL.out; omega) rg).mono ?_
  rintro e w4 ⟨rfl, rfl⟩
  go_wp2
  go_loopg [9] (s - 1) (fun g i wx => ∃ t : Nat, t + g = s - 1 ∧ i = .int .i64 t ∧ ∃ d, wx = w4.drewN d)
  case atStart => exact ⟨0, by omega, rfl, 0, rfl⟩
  case round =>
    obtain ⟨t, ht, rfl, d, rfl⟩ := hrel
    by_cases hlt : t < s - 1
    · obtain ⟨b1, o1, rfl, x1⟩ := rb t (by have := HL.out; omega)
      obtain ⟨b3, o3, rfl, x3⟩ := rg t (by have := hN3.out; omega)
      rw [endL_lo l s t (by omega) (by have := HL.out; omega)] at x3
      obtain ⟨y, hy⟩ : ∃ y, y = l.getD t 0 := ⟨_, rfl⟩
      rw [← hy] at x1 x3
      have p1 : (0 : Int) ≤ (t : Int) := by omega
      have p2 : (t : Int) < (len : Int) := by omega
      have p3 : (t : Int) < (N3 : Int) := by omega
      clear hy rb rg
      go_wp2_with fail
      go_quiet (fail)
      go_wp2
      go_roundg (gk - 1)
      case measure => omega
      case rel => exact ⟨t + 1, by omega, by go_num, _, rfl⟩
    · go_wp2
      go_loopg [10] n (fun g i wx => ∃ t : Nat, t + g = n ∧ i = .int .i64 t ∧ ∃ d, wx = w4.drewN d)
      case atStart => exact ⟨0, by omega, rfl, d, rfl⟩
      case round =>
        obtain ⟨t, ht, rfl, d, rfl⟩ := hrel
        by_cases hlt : t < n
        · obtain ⟨b1, o1, rfl, x1⟩ := rb (s + t) (by have := HL.out; have := FF.out.1; omega)
          obtain ⟨b3, o3, rfl, x3⟩ := rg (nx + t) (by have := hN3.out; have := FF.out.2.2; omega)
          rw [endL_hi l s t nx h1 (by have := HL.out; have := FF.out.1; omega) (by rw [HL.out, FF.out.1]; exact FF.out.2.1)] at x3
          obtain ⟨y, hy⟩ : ∃ y, y = l.getD (s + t) 0 := ⟨_, rfl⟩
          rw [← hy] at x1 x3
          have p1 : (0 : Int) ≤ (t : Int) := by omega
          have p2 : (s : Int) + (t : Int) < (len : Int) := by omega
          have p3 : (nx : Int) + (t : Int) < (N3 : Int) := by omega
          clear hy rb rg
          go_wp2_with fail
          go_quiet (fail)
          go_wp2
          go_roundg (gk - 1)
          case measure => omega
          case rel => exact ⟨t + 1, by omega, by go_num, _, rfl⟩
        · go_wp2
          go_ret
          exact ⟨rfl, below_drewN HB.out d⟩

theorem law4_no (a : Option Addr) (len cap : Nat) (x : Int) (w : World) (h : 1048576 < len) :
    Calls Try.prog 4 #[.slice a len cap, .int .i64 x] w fun e w' => e = .returned (.bool true) ∧ Below w.heap.size w w' := by
  go_enter Try.func4, Try.ntmps4
  go_wp2_with (go_at_call 15; refine (bytes15_no _ _ _ _ _ h).mono ?_; rintro e w' ⟨rfl, rfl⟩)
  go_ret
  exact ⟨rfl, Below.refl _ _⟩
theorem law4_low (a : Option Addr) (len cap : Nat) (x : Int) (w : World) (h : len ≤ 1048576) (h2 : x < 1) :
    Calls Try.prog 4 #[.slice a len cap, .int .i64 x] w fun e w' => e = .returned (.bool true) ∧ Below w.heap.size w w' := by
  go_enter Try.func4, Try.ntmps4
  go_wp2_with (go_at_call 15; refine (bytes15 _ _ _ _ _ h).mono ?_; rintro e w' ⟨rfl, rfl⟩)
  go_ret
  exact ⟨rfl, Below.refl _ _⟩
theorem law4_high (a : Option Addr) (len cap : Nat) (x : Int) (w : World) (h : len ≤ 1048576) (h2 : 1 ≤ x) (h3 : (len : Int) < x) :
    Calls Try.prog 4 #[.slice a len cap, .int .i64 x] w fun e w' => e = .returned (.bool true) ∧ Below w.heap.size w w' := by
  go_enter Try.func4, Try.ntmps4
  go_wp2_with (go_at_call 15; refine (bytes15 _ _ _ _ _ h).mono ?_; rintro e w' ⟨rfl, rfl⟩)
  go_ret
  exact ⟨rfl, Below.refl _ _⟩

theorem law4_any (a : Option Addr) (len cap : Nat) (x : Int) (l : List Int) (w : World) (hl : l.length = len) (hn : a = none → len = 0 ∧ cap = 0) (hr : Rd w a l) :
    Calls Try.prog 4 #[.slice a len cap, .int .i64 x] w fun e w' => e = .returned (.bool true) ∧ Below w.heap.size w w' := by
  by_cases h1 : len ≤ 1048576
  · by_cases h2 : x < 1
    · exact law4_low a len cap x w h1 h2
    · by_cases h3 : (len : Int) < x
      · exact law4_high a len cap x w h1 (by omega) h3
      · obtain ⟨s, rfl⟩ : ∃ s : Nat, x = s := ⟨x.toNat, by omega⟩
        exact law4 a len cap s l w h1 (by omega) (by omega) hl hn hr
  · exact law4_no a len cap x w (by omega)
end Go.Proofs.Qxb6601770a
