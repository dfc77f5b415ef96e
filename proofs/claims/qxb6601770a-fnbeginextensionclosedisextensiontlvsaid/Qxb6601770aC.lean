import Derived.Test.Qxb6601770aB
namespace Go.Proofs.Qxb6601770a
open Go.RowKit
set_option linter.unusedVariables false

/-- 'make([]byte, 0, n+m)'. -/
theorem make_bytes (n m : Nat) (h : n + m ≤ 16777216) (w : World) : (Instr.makeSlice 22 (.int .i64 0) (.int .i64 ((n : Int) + (m : Int)))).run Try.prog w = .ok (.slice (some ⟨w.heap.size, 0, none⟩) 0 (n + m)) (w.alloc (.cells (madeCells #[.int .u8 0] (n + m)) 5)) := by
  obtain ⟨i, hi, hz, hs, hb⟩ := info_parts info5
  have hr := run_make (P := Try.prog) w 22 5 i (.int .u8 0) Try.underlying22 hi hz .i64 .i64 0 ((n : Int) + (m : Int)) (by omega) (by omega) (by rw [hb]; omega) (by omega)
  have e : ((n : Int) + (m : Int)).toNat = n + m := by omega
  simpa [hs, Value.cells, e] using hr

theorem owns_made (w : World) (n : Nat) (hn : n ≤ 16777216) : (w.alloc (.cells (madeCells #[.int .u8 0] n) 5)).ownsRow w.heap.size 5 1 (.slice (some ⟨w.heap.size, 0, none⟩) 0 n) 0 (U []) :=
  World.ownsRow_made w _ n (Nat.le_refl _) (by unfold maxLen; omega) (by simp [madeCells])

set_option maxHeartbeats 400000 in
theorem cat2 (a b : Option Addr) (n m c d : Nat) (la lb : List Int) (w : World) (ha : la.length = n) (hb : lb.length = m) (ra : Rd w a la) (rb : Rd w b lb) (na : a = none → n = 0) (nb : b = none → m = 0) (hs : n + m ≤ 16777216) :
    Calls Try.prog 12 #[.slice a n c, .slice b m d] w fun e w' => ∃ ao cp, e = .returned (.slice ao (n + m) cp) ∧ w'.ownsRow w.heap.size 5 1 (.slice ao (n + m) cp) (n + m) (U (la ++ lb)) ∧ Below w.heap.size w w' := by
  have hmk := make_bytes n m hs
  have HA : Hid (la.length = n) := ha
  have HB : Hid (lb.length = m) := hb
  have NA : Hid (a = none → n = 0) := na
  have NB : Hid (b = none → m = 0) := nb
  clear ha hb na nb
  have hb0 : Below w.heap.size w (w.alloc (.cells (madeCells #[.int .u8 0] (n + m)) 5)) := (Below.refl _ _).alloc (Nat.le_refl _) _
  have ra1 : Rd (w.alloc (.cells (madeCells #[.int .u8 0] (n + m)) 5)) a la := ra.below hb0
  have ho0 := owns_made w (n + m) hs
  go_enter Try.func12, Try.ntmps12
  go_wp2_with (first
    | (at_builtin; refine wpList_appended _ rfl (.tmp 12) (.tmp 13) 22 22 rfl 5 w.heap.size _ _ 0 n n (Nat.zero_add _) (U []) (U la) rfl rfl (fun ty => app_rd Try.underlying22 Try.underlying22 ho0 ra1 HA.out NA.out (by omega) (by simp)) ?_; intro ao1 c1 w1 hown1 hg1; have hb1 : Below w.heap.size w w1 := below_grown hb0 ho0 hg1 (Nat.le_refl _) (by simp); have rb1 : Rd w1 b lb := rb.below hb1; have hown1' : w1.ownsRow w.heap.size 5 1 (.slice ao1 n c1) n (U la) := hown1; have hz1 := hb1.size; clear hown1)
    | (at_builtin; refine wpList_appended _ rfl (.tmp 15) (.tmp 16) 22 22 rfl 5 w.heap.size _ _ n m (n + m) rfl (U la) (U lb) rfl rfl (fun ty => app_rd Try.underlying22 Try.underlying22 hown1' rb1 HB.out NB.out (by omega) (by omega)) ?_; intro ao2 c2 w2 hown2 hg2))
  go_ret
  exact ⟨ao2, c2, rfl, by rw [U_append]; exact hown2, below_grown hb1 hown1' hg2 (Nat.le_refl _) hz1⟩

/-! ### the length table -/
def lenT (n : Nat) : List Int :=
  if n < 128 then [(n : Int)] else if n < 256 then [129, (n : Int)] else if n < 65536 then [130, (n : Int) / 256, (n : Int) % 256] else [131, (n : Int) / 65536, (n : Int) / 256 % 256, (n : Int) % 256]
theorem lenT1 {n : Nat} (h : n < 128) : lenT n = [(n : Int)] := if_pos h
theorem lenT2 {n : Nat} (h0 : 128 ≤ n) (h : n < 256) : lenT n = [129, (n : Int)] := by unfold lenT; rw [if_neg (by omega), if_pos h]
theorem lenT3 {n : Nat} (h0 : 256 ≤ n) (h : n < 65536) : lenT n = [130, (n : Int) / 256, (n : Int) % 256] := by unfold lenT; rw [if_neg (by omega), if_neg (by omega), if_pos h]
theorem lenT4 {n : Nat} (h0 : 65536 ≤ n) : lenT n = [131, (n : Int) / 65536, (n : Int) / 256 % 256, (n : Int) % 256] := by unfold lenT; rw [if_neg (by omega), if_neg (by omega), if_neg (by omega)]
theorem lenT_length (n : Nat) : 1 ≤ (lenT n).length ∧ (lenT n).length ≤ 4 := by
  unfold lenT; split
  · simp
  · split
    · simp
    · split <;> simp

theorem lenTable_1 (n : Int) (w : World) (h1 : 0 ≤ n) (h2 : n < 128) :
    Calls Try.prog 13 #[.int .i64 n] w fun e w' => e = .returned (.slice (some ⟨w.heap.size, 0, none⟩) 1 1) ∧ w' = w.alloc (.cells #[.int .u8 n] 5) := by
  go_enter Try.func13, Try.ntmps13
  go_wp2
  go_ret
  exact ⟨rfl, rfl⟩
theorem lenTable_2 (n : Int) (w : World) (h1 : 128 ≤ n) (h2 : n < 256) :
    Calls Try.prog 13 #[.int .i64 n] w fun e w' => e = .returned (.slice (some ⟨w.heap.size, 0, none⟩) 2 2) ∧ w' = w.alloc (.cells #[.int .u8 129, .int .u8 n] 5) := by
  go_enter Try.func13, Try.ntmps13
  go_wp2
  go_ret
  exact ⟨rfl, rfl⟩
theorem lenTable_3 (n : Int) (w : World) (h1 : 256 ≤ n) (h2 : n < 65536) :
    Calls Try.prog 13 #[.int .i64 n] w fun e w' => e = .returned (.slice (some ⟨w.heap.size, 0, none⟩) 3 3) ∧ w' = w.alloc (.cells #[.int .u8 130, .int .u8 (n / 256), .int .u8 (n % 256)] 5) := by
  go_enter Try.func13, Try.ntmps13
  go_wp2
  go_ret
  exact ⟨rfl, rfl⟩
theorem lenTable_4 (n : Int) (w : World) (h1 : 65536 ≤ n) (h2 : n < 16777216) :
    Calls Try.prog 13 #[.int .i64 n] w fun e w' => e = .returned (.slice (some ⟨w.heap.size, 0, none⟩) 4 4) ∧ w' = w.alloc (.cells #[.int .u8 131, .int .u8 (n / 65536), .int .u8 (n / 256 % 256), .int .u8 (n % 256)] 5) := by
  go_enter Try.func13, Try.ntmps13
  go_wp2
  go_ret
  exact ⟨rfl, rfl⟩
theorem lenTable (n : Nat) (w : World) (h : n < 16777216) :
    Calls Try.prog 13 #[.int .i64 (n : Int)] w fun e w' => e = .returned (.slice (some ⟨w.heap.size, 0, none⟩) (lenT n).length (lenT n).length) ∧ w' = w.alloc (.cells (U (lenT n)).toArray 5) := by
  by_cases h1 : n < 128
  · rw [lenT1 h1]
    exact lenTable_1 (n : Int) w (by omega) (by omega)
  · by_cases h2 : n < 256
    · rw [lenT2 (by omega) h2]
      exact lenTable_2 (n : Int) w (by omega) (by omega)
    · by_cases h3 : n < 65536
      · rw [lenT3 (by omega) h3]
        exact lenTable_3 (n : Int) w (by omega) (by omega)
      · rw [lenT4 (by omega)]
        exact lenTable_4 (n : Int) w (by omega) (by omega)

theorem owns_lit (w : World) (l : List Int) (h : l.length ≤ 16777216) : (w.alloc (.cells (U l).toArray 5)).ownsRow w.heap.size 5 1 (.slice (some ⟨w.heap.size, 0, none⟩) l.length l.length) l.length (U l) := by
  have := World.ownsRow_lit (base := w.heap.size) (e := 5) (size := 1) w (U l).toArray l.length (Nat.le_refl _) (by unfold maxLen; omega) (by simp [U_length])
  simpa using this

theorem lenTable_own (n : Nat) (w : World) (h : n < 16777216) :
    Calls Try.prog 13 #[.int .i64 (n : Int)] w fun e w' => ∃ ao c N, Hid (N = (lenT n).length) ∧ e = .returned (.slice ao N c) ∧ w'.ownsRow w.heap.size 5 1 (.slice ao N c) N (U (lenT n)) ∧ Below w.heap.size w w' :=
  (lenTable n w h).mono fun e w' ⟨he, hw⟩ => ⟨_, _, _, rfl, he, by rw [hw]; exact owns_lit w _ (by have := lenT_length n; omega), by rw [hw]; exact (Below.refl _ _).alloc (Nat.le_refl _) _⟩

/-! ### zzEq -/
set_option maxHeartbeats 400000 in
theorem eq_same (a b : Option Addr) (n c d : Nat) (l : List Int) (w : World) (hl : l.length = n) (hn : n ≤ 16777216) (ra : Rd w a l) (rb : Rd w b l) :
    Calls Try.prog 14 #[.slice a n c, .slice b n d] w fun e w' => e = .returned (.bool true) ∧ ∃ k, w' = w.drewN k := by
  have HL : Hid (l.length = n) := hl
  clear hl
  go_enter Try.func14, Try.ntmps14
  go_wp2
  go_loopg [5] n (fun g i wx => ∃ t : Nat, t + g = n ∧ i = .int .i64 t ∧ ∃ d, wx = w.drewN d)
  case atStart => exact ⟨0, by omega, rfl, 0, rfl⟩
  case round =>
    obtain ⟨t, ht, rfl, d, rfl⟩ := hrel
    by_cases hlt : t < n
    · obtain ⟨b1, o1, rfl, c1⟩ := ra t (by have := HL.out; omega)
      obtain ⟨b2, o2, rfl, c2⟩ := rb t (by have := HL.out; omega)
      obtain ⟨y, hy⟩ : ∃ y, y = l.getD t 0 := ⟨_, rfl⟩
      rw [← hy] at c1 c2
      have p1 : (0 : Int) ≤ (t : Int) := by omega
      have p2 : (t : Int) < (n : Int) := by omega
      clear hy ra rb
      go_wp2_with fail
      go_quiet (fail)
      go_wp2
      go_roundg (gk - 1)
      case measure => omega
      case rel => exact ⟨t + 1, by omega, by go_num, _, rfl⟩
    · go_wp2
      go_ret
      exact ⟨rfl, d, rfl⟩

end Go.Proofs.Qxb6601770a
