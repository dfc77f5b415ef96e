import Derived.Test.Qxb6601723aG
import Derived.Lib.Builder
namespace Go.Proofs.Qxb6601723a
open Go.RowKit
set_option linter.unusedVariables false

section
variable {w : World} {V : Nat} {pr : Int} {n : Nat} {q : Nat → Nat} {id : Nat → Int}
theorem Queue.cPv (h : Queue w V pr n q id) {i : Nat} (hi : i < n) : w.cell? ⟨q i, 15, none⟩ = some (.pointer (pv q i)) := cell_of_row _ _ 15 _ 39 (0, 0) (h.nod i hi)
theorem Queue.cNx (h : Queue w V pr n q id) {i : Nat} (hi : i < n) : w.cell? ⟨q i, 16, none⟩ = some (.pointer (nx q n (i + 1))) := cell_of_row _ _ 16 _ 39 (0, 0) (h.nod i hi)
theorem Queue.cId (h : Queue w V pr n q id) {i : Nat} (hi : i < n) : w.cell? ⟨q i, 0, none⟩ = some (.int .i64 (id (q i))) := cell_of_row _ _ 0 _ 39 (0, 0) (h.nod i hi)
theorem Queue.cPr (h : Queue w V pr n q id) : w.cell? ⟨V, 0, none⟩ = some (.int .i64 pr) := cell_of_row _ _ 0 _ 63 (0, 0) h.lev
theorem Queue.cHd (h : Queue w V pr n q id) : w.cell? ⟨V, 1, none⟩ = some (.pointer (nx q n 0)) := cell_of_row _ _ 1 _ 63 (0, 0) h.lev
theorem Queue.cTl (h : Queue w V pr n q id) : w.cell? ⟨V, 2, none⟩ = some (.pointer (pv q n)) := cell_of_row _ _ 2 _ 63 (0, 0) h.lev
theorem Queue.fN (h : Queue w V pr n q id) {i : Nat} (hi : i < n) (j : Nat) : w.frozen? ⟨q i, j, none⟩ = false := frozen_of_row _ _ j _ 39 (h.nod i hi)
theorem Queue.fV (h : Queue w V pr n q id) (j : Nat) : w.frozen? ⟨V, j, none⟩ = false := frozen_of_row _ _ j _ 63 h.lev
end

theorem remove_any {w : World} {V : Nat} {pr : Int} {m k : Nat} {q : Nat → Nat} {id : Nat → Int} (hq : Queue w V pr (m + 1) q id) (hk : k ≤ m) :
    Calls Try.prog 26 #[.pointer (some ⟨V, 0, none⟩), .pointer (some ⟨q k, 0, none⟩)] w fun e w' => e = .returned (.tuple #[]) ∧ Removed w w' V pr m q id k := by
  have hne : ∀ i j, i < m + 1 → j < m + 1 → i ≠ j → q i ≠ q j := fun i j hi hj h e => h (hq.inj i j hi hj e)
  have cP := hq.cPv (i := k) (by omega)
  have cN := hq.cNx (i := k) (by omega)
  by_cases h0 : k = 0
  · subst h0
    by_cases hm : m = 0
    · subst hm
      rw [pv_zero] at cP
      rw [nx_ge (by omega)] at cN
      exact (remove_only V (q 0) w (hq.off (by omega)) cP cN _ _ hq.cHd hq.cTl hq.fV (hq.fN (by omega))).mono fun e w' ⟨he, ha, ht⟩ => ⟨he, (removed_only hq).alike ha ht⟩
    · rw [pv_zero] at cP
      rw [nx_lt (by omega)] at cN
      exact (remove_first V (q 0) (q 1) w (hq.off (by omega)) (hq.off (by omega)) (hne 0 1 (by omega) (by omega) (by omega)) cP cN _ _ hq.cHd (hq.cPv (by omega)) hq.fV (hq.fN (by omega)) (hq.fN (by omega))).mono fun e w' ⟨he, ha, ht⟩ => ⟨he, (removed_first (by omega) hq).alike ha ht⟩
  · obtain ⟨j, rfl⟩ : ∃ j, k = j + 1 := ⟨k - 1, by omega⟩
    rw [pv_succ] at cP
    by_cases hm : m = j + 1
    · subst hm
      rw [nx_ge (by omega)] at cN
      exact (remove_last V (q (j + 1)) (q j) w (hq.off (by omega)) (hq.off (by omega)) (hne _ _ (by omega) (by omega) (by omega)) cP cN _ _ hq.cTl (hq.cNx (by omega)) hq.fV (hq.fN (by omega)) (hq.fN (by omega))).mono fun e w' ⟨he, ha, ht⟩ => ⟨he, (removed_last hq).alike ha ht⟩
    · rw [nx_lt (by omega)] at cN
      exact (remove_mid V (q (j + 1)) (q j) (q (j + 1 + 1)) w (hq.off (by omega)) (hq.off (by omega)) (hne _ _ (by omega) (by omega) (by omega)) (hne _ _ (by omega) (by omega) (by omega)) (hq.off (by omega)) (hne _ _ (by omega) (by omega) (by omega)) cP cN _ _ (hq.cPv (by omega)) (hq.cNx (by omega)) (hq.fN (by omega)) (hq.fN (by omega)) (hq.fN (by omega))).mono fun e w' ⟨he, ha, ht⟩ => ⟨he, (removed_mid (by omega) hq).alike ha ht⟩

theorem zzRemove {w : World} {V : Nat} {pr : Int} {m k : Nat} {q : Nat → Nat} {id : Nat → Int} (hq : Queue w V pr (m + 1) q id) (hk : k ≤ m) :
    Calls Try.prog 15 #[.pointer (some ⟨V, 0, none⟩), .pointer (some ⟨q k, 0, none⟩)] w fun e w' => e = .returned (.tuple #[]) ∧ Removed w w' V pr m q id k := by
  go_enter Try.func15, Try.ntmps15
  go_wp2_with (go_at_call 26; refine (remove_any hq hk).mono ?_; rintro e w' ⟨rfl, hr⟩)
  go_end0
  exact ⟨rfl, hr⟩

theorem zzPrev (O : Nat) (v : Option Addr) (w : World) (h : w.cell? ⟨O, 15, none⟩ = some (.pointer v)) :
    Calls Try.prog 17 #[.pointer (some ⟨O, 0, none⟩)] w fun e w' => e = .returned (.pointer v) ∧ w' = w := by
  go_enter Try.func17, Try.ntmps17
  go_wp2
  go_ret
  exact ⟨rfl, rfl⟩
theorem zzNext (O : Nat) (v : Option Addr) (w : World) (h : w.cell? ⟨O, 16, none⟩ = some (.pointer v)) :
    Calls Try.prog 18 #[.pointer (some ⟨O, 0, none⟩)] w fun e w' => e = .returned (.pointer v) ∧ w' = w := by
  go_enter Try.func18, Try.ntmps18
  go_wp2
  go_ret
  exact ⟨rfl, rfl⟩
theorem zzPrice (O : Nat) (v : Int) (w : World) (h : w.cell? ⟨O, 0, none⟩ = some (.int .i64 v)) :
    Calls Try.prog 19 #[.pointer (some ⟨O, 0, none⟩)] w fun e w' => e = .returned (.int .i64 v) ∧ w' = w := by
  go_enter Try.func19, Try.ntmps19
  go_wp2
  go_ret
  exact ⟨rfl, rfl⟩
theorem zzHead (O : Nat) (v : Option Addr) (w : World) (h : w.cell? ⟨O, 1, none⟩ = some (.pointer v)) :
    Calls Try.prog 27 #[.pointer (some ⟨O, 0, none⟩)] w fun e w' => e = .returned (.pointer v) ∧ w' = w := by
  go_enter Try.func27, Try.ntmps27
  go_wp2
  go_ret
  exact ⟨rfl, rfl⟩
theorem zzTail (O : Nat) (v : Option Addr) (w : World) (h : w.cell? ⟨O, 2, none⟩ = some (.pointer v)) :
    Calls Try.prog 28 #[.pointer (some ⟨O, 0, none⟩)] w fun e w' => e = .returned (.pointer v) ∧ w' = w := by
  go_enter Try.func28, Try.ntmps28
  go_wp2
  go_ret
  exact ⟨rfl, rfl⟩
theorem zzLinks (O : Nat) (p x : Option Addr) (w : World) (u1 u2 : Value) (h1 : w.cell? ⟨O, 15, none⟩ = some u1) (h2 : w.cell? ⟨O, 16, none⟩ = some u2) (f : ∀ j, w.frozen? ⟨O, j, none⟩ = false) :
    Calls Try.prog 25 #[.pointer (some ⟨O, 0, none⟩), .pointer p, .pointer x] w fun e w' => e = .returned (.tuple #[]) ∧ w' = (w.setCell ⟨O, 15, none⟩ (.pointer p)).setCell ⟨O, 16, none⟩ (.pointer x) := by
  go_enter Try.func25, Try.ntmps25
  go_wp2
  go_end0
  exact ⟨rfl, rfl⟩

theorem info39 : (Try.prog.info? 39).isSome = true := by kernel_rfl
theorem neq_order (w : World) (a : Addr) : (binOp .neq 30 (.pointer (some a)) (.pointer (some a))).run Try.prog w = .ok (.bool false) w := by
  obtain ⟨j, hj⟩ := Option.isSome_iff_exists.1 info39
  exact Lib.run_neq_ptr_same w a Try.underlying30 hj

/-- The cells of a slice of orders: place i holds the pointer to 'q i'. -/
def Want (w : World) (g n : Nat) (q : Nat → Nat) : Prop := ∀ i, i < n → w.cell? ⟨g, i, none⟩ = some (.pointer (some ⟨q i, 0, none⟩))

set_option maxHeartbeats 800000 in
theorem queueIs {w : World} {V : Nat} {pr : Int} {n : Nat} {q : Nat → Nat} {id : Nat → Int} (hq : Queue w V pr n q id) (g cap : Nat) (hn : n ≤ 1048576) (hw : Want w g n q) :
    Calls Try.prog 16 #[.pointer (some ⟨V, 0, none⟩), .slice (some ⟨g, 0, none⟩) n cap] w fun e w' => e = .returned (.bool true) ∧ w' = w := by
  have hnq := neq_order
  go_enter Try.func16, Try.ntmps16
  go_wp2_with (go_at_call 27; refine (zzHead _ _ _ hq.cHd).mono ?_; rintro e w' ⟨rfl, rfl⟩)
  go_loopg [5, 6] n (fun k c i wr => ∃ j : Nat, j + k = n ∧ i = .int .i64 j ∧ c = .pointer (nx q n j) ∧ wr = w')
  case atStart => exact ⟨0, by omega, rfl, rfl, rfl⟩
  case round =>
    obtain ⟨j, hj, rfl, rfl, rfl⟩ := hrel
    by_cases hlt : j < n
    · rw [nx_lt hlt]
      have hwj := hw j hlt
      have cN := hq.cNx hlt
      have HQ : Hid (Queue wr V pr n q id) := hq
      have HW : Hid (Want wr g n q) := hw
      clear hq hw
      go_wp2_with (go_at_call 18; refine (zzNext _ _ _ cN).mono ?_; rintro e w' ⟨rfl, rfl⟩)
      go_roundg (gk - 1)
      case measure => omega
      case rel => exact ⟨j + 1, by omega, by go_num, rfl, rfl⟩
    · rw [nx_ge (by omega)]
      have cT := hq.cTl
      have HQ : Hid (Queue wr V pr n q id) := hq
      have HW : Hid (Want wr g n q) := hw
      clear hq hw
      go_wp2_with (go_at_call 28; refine (zzTail _ _ _ cT).mono ?_; rintro e w' ⟨rfl, rfl⟩)
      go_loopg [5, 7] n (fun k c i wr => k ≤ n ∧ i = .int .i64 ((k : Int) - 1) ∧ c = .pointer (pv q k) ∧ wr = w')
      case atStart => exact ⟨Nat.le_refl _, rfl, rfl, rfl⟩
      case round =>
        obtain ⟨hk, rfl, rfl, rfl⟩ := hrel
        cases gk with
        | zero =>
          rw [pv_zero]
          go_wp2
          go_ret
          exact ⟨rfl, rfl⟩
        | succ t =>
          rw [pv_succ]
          have hwj := HW.out t (by omega)
          have cP := HQ.out.cPv (i := t) (by omega)
          have e1 : ((t + 1 : Nat) : Int) - 1 = (t : Int) := by omega
          rw [e1]
          go_wp2_with (go_at_call 17; refine (zzPrev _ _ _ cP).mono ?_; rintro e w' ⟨rfl, rfl⟩)
          go_roundg t
          case measure => omega
          case rel => exact ⟨by omega, rfl, rfl, rfl⟩

end Go.Proofs.Qxb6601723a
