import Derived.Test.Qxb6601723aJ
import Derived.Deep.RegionHeld3
namespace Go.Proofs.Qxb6601723a
open Go.RowKit
set_option linter.unusedVariables false

theorem bytes12 (a0 a2 : Int) (a1 : Option Addr) (len cap : Nat) (w : World) (h : len ≤ 1048576) :
   Calls Try.prog 12 #[.int .i64 a0, .slice a1 len cap, .int .i64 a2] w fun e w' => e = .returned (.bool true) ∧ w' = w := by
  go_enter Try.func12, Try.ntmps12
  go_wp2
  go_ret
  exact ⟨rfl, rfl⟩
theorem bytes12_no (a0 a2 : Int) (a1 : Option Addr) (len cap : Nat) (w : World) (h : 1048576 < len) :
   Calls Try.prog 12 #[.int .i64 a0, .slice a1 len cap, .int .i64 a2] w fun e w' => e = .returned (.bool false) ∧ w' = w := by
  go_enter Try.func12, Try.ntmps12
  go_wp2
  go_ret
  exact ⟨rfl, rfl⟩

theorem del_at {q : Nat → Nat} {k j c : Nat} (hc : c = if j ≤ k then j else j - 1) (h : j ≠ k) : del q k c = q j := by
  subst hc
  by_cases l : j ≤ k
  · rw [if_pos l, del, if_pos (by omega)]
  · rw [if_neg l, del, if_neg (by omega)]
    congr 1
    omega
theorem cnt_same {k : Nat} : k = if k + 1 ≤ k then k + 1 else k + 1 - 1 := by rw [if_neg (by omega)]; omega
theorem cnt_next {k j c : Nat} (hc : c = if j ≤ k then j else j - 1) (h : j ≠ k) : c + 1 = if j + 1 ≤ k then j + 1 else j + 1 - 1 := by
  subst hc; split <;> split <;> omega
theorem cnt_end {k m c : Nat} (hk : k < m + 1) (hc : c = if m + 1 ≤ k then m + 1 else m + 1 - 1) : c = m := by
  subst hc; rw [if_neg (by omega)]; omega

/-- What stands behind the level's making. -/
theorem scene4 {w1 w2 : World} {len : Nat} {z : Nat → Int} (hl : Linked w1 w1.heap.size len len z w2) (hp : 0 < len) (pr : Int) :
    ∃ W, (w2.alloc (.cells #[.int .i64 pr, .pointer (some ⟨w1.heap.size + 1, 0, none⟩), .pointer (some ⟨w1.heap.size + 1 + (len - 1), 0, none⟩)] 63)).drew = W ∧
      Queue W w2.heap.size pr len (fun i => w1.heap.size + 1 + i) (fun b => z (b - (w1.heap.size + 1))) ∧ W.rowIs w1.heap.size 30 len (fun t => .pointer (some ⟨w1.heap.size + 1 + t, 0, none⟩)) ∧
      Below w1.heap.size w1 W ∧ w1.heap.size + 1 ≤ w2.heap.size ∧ w2.heap.size < W.heap.size := by
  have hs := hl.size
  refine ⟨_, rfl, ?_, (hl.row.alloc _).drew, (hl.bel.alloc (by omega) _).drew, by omega, by simp⟩
  have q0 := queue_made hl pr (.cells #[.int .i64 pr, .pointer (some ⟨w1.heap.size + 1, 0, none⟩), .pointer (some ⟨w1.heap.size + 1 + (len - 1), 0, none⟩)] 63) (by rw [nx_lt hp]; simp [pv]; omega)
  exact ⟨q0.lev, q0.nod, q0.inj⟩

set_option maxRecDepth 100000 in
set_option maxHeartbeats 1000000 in
theorem law4 (a0 : Int) (a1 : Option Addr) (len cap k : Nat) (w : World) (h : len ≤ 65536) (hk : k < len)
    (hnone : a1 = none → len = 0 ∧ cap = 0) (z : Nat → Int) (hsrc : Src .i64 w a1 len z) :
    Calls Try.prog 4 #[.int .i64 a0, .slice a1 len cap, .int .i64 (k : Int)] w fun e w' => e = .returned (.bool true) ∧ Below w.heap.size w w' := by
  have HN : Hid (a1 = none → len = 0 ∧ cap = 0) := hnone
  have hki : (k : Int) < (len : Int) := by omega
  have hpos : (0 : Int) < (len : Int) := by omega
  clear hnone
  go_enter Try.func4, Try.ntmps4
  go_wp2_with (first 
    | (go_at_call 12; refine (bytes12 _ _ _ _ _ _ (by omega)).mono ?_; rintro e w' ⟨rfl, rfl⟩)
    | (go_at_call 8; refine (clone_any _ _ _ z _ (by omega) HN.out hsrc).mono ?_; rintro e w1 ⟨a', rfl, hsrc1, hb1⟩)
    | (go_at_call 13; refine (buildQueue _ _ _ z _ (by omega) hsrc1).mono ?_; rintro e w2 ⟨rfl, hlk⟩))
  have cz : w2.cell? ⟨w1.heap.size, 0, none⟩ = some (.pointer (some ⟨w1.heap.size + 1 + 0, 0, none⟩)) := hlk.row.cell (by omega)
  have cl : w2.cell? ⟨w1.heap.size, len - 1, none⟩ = some (.pointer (some ⟨w1.heap.size + 1 + (len - 1), 0, none⟩)) := hlk.row.cell (by omega)
  have i1 : (1 : Int) ≤ (len : Int) := by omega
  have i2 : (len : Int) - 1 < (len : Int) := by omega
  have i3 : ((len : Int) - 1).toNat = len - 1 := by omega
  have i4 : 0 < len := by omega
  have i5 : IntKind.i64.wrap ((len : Int) - 1) = (len : Int) - 1 := by rw [IntKind.wrap_i64]; omega
  go_region_held3 (fun w' => w'.cell? ⟨w1.heap.size, 0, none⟩ = some (.pointer (some ⟨w1.heap.size + 1 + 0, 0, none⟩)) ∧ w'.cell? ⟨w1.heap.size, len - 1, none⟩ = some (.pointer (some ⟨w1.heap.size + 1 + (len - 1), 0, none⟩))) (go_keep) ((go_at_call 14; refine (newLevel _ _ _ _).mono ?_; rintro e w' ⟨rfl, rfl⟩))
  obtain ⟨W3, hW3, hQ3, hR3, hB3, hV1, hV2⟩ := scene4 hlk i4 a0
  rw [hW3]
  rename_i hHeld
  clear hW3 cz cl i1 i2 i3 i5 hHeld
  obtain ⟨m, hm⟩ : ∃ m, len = m + 1 := ⟨len - 1, by omega⟩
  have HM : Hid (len = m + 1) := hm
  have hQ3' : Queue W3 w2.heap.size a0 (m + 1) (fun i => w1.heap.size + 1 + i) (fun b => z (b - (w1.heap.size + 1))) := by rw [← hm]; exact hQ3
  have ck : W3.cell? ⟨w1.heap.size, k, none⟩ = some (.pointer (some ⟨w1.heap.size + 1 + k, 0, none⟩)) := hR3.cell hk
  clear hm hQ3
  have hmk := make_orders len (by omega)
  go_wp2_with (go_at_call 15; refine (zzRemove hQ3' (k := k) (by have := HM.out; omega)).mono ?_; rintro e W4 ⟨rfl, hrem⟩)
  clear hmk ck
  have hB4 : Below w1.heap.size w1 W4 := hB3.trans (hrem.belowOf (by omega) (fun i _ => by omega))
  have hR4 : W4.rowIs w1.heap.size 30 len (fun t => .pointer (some ⟨w1.heap.size + 1 + t, 0, none⟩)) := hR3.of_block (hrem.rest _ (by omega) (fun i hi => by omega))
  have REM : Hid (Removed W3 W4 w2.heap.size a0 m (fun i => w1.heap.size + 1 + i) (fun b => z (b - (w1.heap.size + 1))) k) := hrem
  clear hrem hQ3' hR3 hB3
  obtain ⟨i0, hi0, hz0, hz1, hz2⟩ := info_parts info30
  go_loopg [10, 11] len (fun g v i wr => ∃ j c : Nat, j + g = len ∧ i = .int .i64 j ∧ Hid (c = if j ≤ k then j else j - 1) ∧ v = .slice (some ⟨W4.heap.size, 0, none⟩) c len ∧
    wr.ownsRow 0 30 1 (.slice (some ⟨W4.heap.size, 0, none⟩) c len) c (ptrs (del (fun i => w1.heap.size + 1 + i) k) c) ∧ Below W4.heap.size W4 wr)
  case atStart => exact ⟨0, 0, by omega, rfl, (if_pos (Nat.zero_le _)).symm, rfl, owns_made W4 len (by omega) _, (Below.refl _ _).alloc (Nat.le_refl _) _⟩
  case round =>
    obtain ⟨j, c, hj, rfl, hc, rfl, hown, hbel⟩ := hrel
    by_cases hlt : j < len
    · have cj : wr.cell? ⟨w1.heap.size, j, none⟩ = some (.pointer (some ⟨w1.heap.size + 1 + j, 0, none⟩)) := (rowIs_below hR4 hbel).cell hlt
      by_cases hjk : j = k
      · subst hjk
        have hc' : c = j := by have := hc.out; rw [if_pos (Nat.le_refl _)] at this; exact this
        subst hc'
        have hne : ((c : Int) != (c : Int)) = false := by simp
        go_wp2
        go_roundg (gk - 1)
        case measure => omega
        case rel => exact ⟨c + 1, c, by omega, by go_num, cnt_same, rfl, hown, hbel⟩
      · have hc2 := hc.out
        have hcl : c < len := by rw [hc2]; split <;> omega
        have hdel : del (fun i => w1.heap.size + 1 + i) k c = w1.heap.size + 1 + j := del_at hc2 hjk
        have hnew : ptrs (del (fun i => w1.heap.size + 1 + i) k) (c + 1) = ptrs (del (fun i => w1.heap.size + 1 + i) k) c ++ [.pointer (some ⟨w1.heap.size + 1 + j, 0, none⟩)] := by rw [ptrs_succ, hdel]
        have HNEW : Hid (ptrs (del (fun i => w1.heap.size + 1 + i) k) (c + 1) = ptrs (del (fun i => w1.heap.size + 1 + i) k) c ++ [.pointer (some ⟨w1.heap.size + 1 + j, 0, none⟩)]) := hnew
        have hne : ((j : Int) != (k : Int)) = true := by simp; omega
        clear hnew hdel hc2
        go_wp2_with (at_builtin; refine wpList_append_fits _ rfl (.tmp 61) (.tmp 66) 43 rfl 0 30 i0 1 Try.underlying43 hi0 hz1 W4.heap.size c len _ rfl (hown.alloc _) ⟨wr.heap.size, 0, none⟩ 1 1 [.pointer (some ⟨w1.heap.size + 1 + j, 0, none⟩)] rfl rfl (cell_one_new _ _ _) (by intro u hu; simp at hu; subst hu; rfl) (by omega) ?_; intro w5 hown5 hg5)
        go_roundg (gk - 1)
        case measure => omega
        case rel => exact ⟨j + 1, c + 1, by omega, by go_num, cnt_next hc.out hjk, rfl, by rw [HNEW.out]; exact hown5, (hbel.alloc (by have := hbel.size; omega) _).grown hg5 (by have := hbel.size; simp; omega) (fun b hb => by simp at hb; omega)⟩
    · have hje : j = len := by omega
      subst hje
      have hcm : c = m := by
        have h1 := HM.out
        have h2 := hc.out
        rw [h1] at h2
        exact cnt_end (by omega) h2
      subst hcm
      have hQ5 := REM.out.queue.below hbel
      have hR5 := rowIs_below hR4 hbel
      have hW5 := want_of_owns hown
      have hG5 : wr.heap[w1.heap.size + 1 + k]? = some (.cells (nodeC (z (w1.heap.size + 1 + k - (w1.heap.size + 1))) none none) 39 (0, 0)) :=
        (hbel.block _ (Array.getElem?_eq_some_iff.1 REM.out.gone).1).trans REM.out.gone
      have g15 : wr.cell? ⟨w1.heap.size + 1 + k, 15, none⟩ = some (.pointer none) := cell_of_row _ _ 15 _ 39 (0, 0) hG5
      have g16 : wr.cell? ⟨w1.heap.size + 1 + k, 16, none⟩ = some (.pointer none) := cell_of_row _ _ 16 _ 39 (0, 0) hG5
      have ck : wr.cell? ⟨w1.heap.size, k, none⟩ = some (.pointer (some ⟨w1.heap.size + 1 + k, 0, none⟩)) := hR5.cell hk
      have cpr := hQ5.cPr
      have hB5 : Below w1.heap.size w1 wr := hB4.trans (hbel.mono hB4.size)
      have hids : ∀ i, i < j → wr.cell? ⟨w1.heap.size + 1 + i, 0, none⟩ = some (.int .i64 (z i)) := by
        intro i hi
        have h1 := REM.out.ids (i := i) (by have := HM.out; omega) (by have := HM.out; omega)
        have h2 := hbel.cell (p := ⟨w1.heap.size + 1 + i, 0, none⟩) (World.block_lt_of_cell? _ _ h1)
        rw [h2, h1]
        simp
      have hsrc5 := hsrc1.below hB5
      have HQ5 : Hid (Queue wr w2.heap.size a0 c (del (fun i => w1.heap.size + 1 + i) k) (fun b => z (b - (w1.heap.size + 1)))) := hQ5
      have HW5 : Hid (Want wr W4.heap.size c (del (fun i => w1.heap.size + 1 + i) k)) := hW5
      have HR5 : Hid (wr.rowIs w1.heap.size 30 j fun t => .pointer (some ⟨w1.heap.size + 1 + t, 0, none⟩)) := hR5
      have HB5 : Hid (Below w1.heap.size w1 wr) := hB5
      have hcb : c ≤ 1048576 := by have := HM.out; omega
      clear hown hQ5 hW5 hR5 hB5 REM hG5 hR4 hB4 hlk hsrc hsrc1 hbel
      go_wp2_with (first
        | (go_at_call 16; refine (queueIs HQ5.out _ _ hcb HW5.out).mono ?_; rintro e w5 ⟨rfl, rfl⟩)
        | (go_at_call 17; refine (zzPrev _ _ _ g15).mono ?_; rintro e w5 ⟨rfl, rfl⟩)
        | (go_at_call 18; refine (zzNext _ _ _ g16).mono ?_; rintro e w5 ⟨rfl, rfl⟩)
        | (go_at_call 19; refine (zzPrice _ _ _ cpr).mono ?_; rintro e w5 ⟨rfl, rfl⟩))
      go_loopg [12] j (fun g i wx => ∃ t : Nat, t + g = j ∧ i = .int .i64 t ∧ ∃ d, wx = w5.drewN d)
      case atStart => exact ⟨0, by omega, rfl, 0, rfl⟩
      case round =>
        obtain ⟨t, ht, rfl, d, rfl⟩ := hrel
        by_cases hlt : t < j
        · have c1 : w5.cell? ⟨w1.heap.size, t, none⟩ = some (.pointer (some ⟨w1.heap.size + 1 + t, 0, none⟩)) := HR5.out.cell hlt
          have c2 := hids t hlt
          obtain ⟨sb, so, rfl, c3⟩ := hsrc5 t hlt
          have b1 : (0 : Int) ≤ (t : Int) := by omega
          have b2 : (t : Int) < (j : Int) := by omega
          clear hids hsrc5 HQ5 HW5 HR5
          go_wp2_with fail
          go_quiet (fail)
          go_wp2
          go_roundg (gk - 1)
          case measure => omega
          case rel => exact ⟨t + 1, by omega, by go_num, _, rfl⟩
        · go_wp2
          go_ret
          exact ⟨rfl, below_drewN (hb1.trans (HB5.out.mono hb1.size)) d⟩

theorem law4_no (a0 a2 : Int) (a1 : Option Addr) (len cap : Nat) (w : World) (h : 1048576 < len) :
    Calls Try.prog 4 #[.int .i64 a0, .slice a1 len cap, .int .i64 a2] w fun e w' => e = .returned (.bool true) ∧ Below w.heap.size w w' := by
  go_enter Try.func4, Try.ntmps4
  go_wp2_with (go_at_call 12; refine (bytes12_no _ _ _ _ _ _ h).mono ?_; rintro e w' ⟨rfl, rfl⟩)
  go_ret
  exact ⟨rfl, Below.refl _ _⟩
theorem law4_long (a0 a2 : Int) (a1 : Option Addr) (len cap : Nat) (w : World) (h : len ≤ 1048576) (h2 : 65536 < len) :
    Calls Try.prog 4 #[.int .i64 a0, .slice a1 len cap, .int .i64 a2] w fun e w' => e = .returned (.bool true) ∧ Below w.heap.size w w' := by
  go_enter Try.func4, Try.ntmps4
  go_wp2_with (go_at_call 12; refine (bytes12 _ _ _ _ _ _ h).mono ?_; rintro e w' ⟨rfl, rfl⟩)
  go_ret
  exact ⟨rfl, Below.refl _ _⟩
theorem law4_neg (a0 a2 : Int) (a1 : Option Addr) (len cap : Nat) (w : World) (h : len ≤ 65536) (h2 : a2 < 0) :
    Calls Try.prog 4 #[.int .i64 a0, .slice a1 len cap, .int .i64 a2] w fun e w' => e = .returned (.bool true) ∧ Below w.heap.size w w' := by
  go_enter Try.func4, Try.ntmps4
  go_wp2_with (go_at_call 12; refine (bytes12 _ _ _ _ _ _ (by omega)).mono ?_; rintro e w' ⟨rfl, rfl⟩)
  go_ret
  exact ⟨rfl, Below.refl _ _⟩
theorem law4_over (a0 a2 : Int) (a1 : Option Addr) (len cap : Nat) (w : World) (h : len ≤ 65536) (h2 : 0 ≤ a2) (h3 : (len : Int) ≤ a2) :
    Calls Try.prog 4 #[.int .i64 a0, .slice a1 len cap, .int .i64 a2] w fun e w' => e = .returned (.bool true) ∧ Below w.heap.size w w' := by
  go_enter Try.func4, Try.ntmps4
  go_wp2_with (go_at_call 12; refine (bytes12 _ _ _ _ _ _ (by omega)).mono ?_; rintro e w' ⟨rfl, rfl⟩)
  go_ret
  exact ⟨rfl, Below.refl _ _⟩

theorem law4_any (a0 a2 : Int) (a1 : Option Addr) (len cap : Nat) (w : World) (hnone : a1 = none → len = 0 ∧ cap = 0) (z : Nat → Int) (hsrc : Src .i64 w a1 len z) :
    Calls Try.prog 4 #[.int .i64 a0, .slice a1 len cap, .int .i64 a2] w fun e w' => e = .returned (.bool true) ∧ Below w.heap.size w w' := by
  by_cases h1 : len ≤ 1048576
  · by_cases h2 : len ≤ 65536
    · by_cases h3 : a2 < 0
      · exact law4_neg a0 a2 a1 len cap w h2 h3
      · by_cases h4 : (len : Int) ≤ a2
        · exact law4_over a0 a2 a1 len cap w h2 (by omega) h4
        · obtain ⟨k, rfl⟩ : ∃ k : Nat, a2 = k := ⟨a2.toNat, by omega⟩
          exact law4 a0 a1 len cap k w h2 (by omega) hnone z hsrc
    · exact law4_long a0 a2 a1 len cap w h1 (by omega)
  · exact law4_no a0 a2 a1 len cap w (by omega)
end Go.Proofs.Qxb6601723a
