import Derived.Test.Qxb6601723aL
namespace Go.Proofs.Qxb6601723a
open Go.RowKit
set_option linter.unusedVariables false

/-- What holds at the head of the script's loop. -/
structure Script (w2 : World) (V n m : Nat) (q : Nat → Nat) (id : Nat → Int) (g : Nat) (wr : World) : Prop where
  queue : Queue wr V 0 m q id
  model : Model wr g m q
  bel : Below w2.heap.size w2 wr
  lev : w2.heap.size ≤ V
  nod : ∀ i, i < m → w2.heap.size ≤ q i
  le : m ≤ n
  sz : w2.heap.size ≤ wr.heap.size

theorem hd_if (q : Nat → Nat) (n : Nat) : (if 0 < n then some ⟨q 0, 0, none⟩ else none) = nx q n 0 := rfl
theorem tl_if (q : Nat → Nat) (n : Nat) : (if 0 < n then some ⟨q (n - 1), 0, none⟩ else none) = pv q n := by
  unfold pv; by_cases h : n = 0
  · subst h; rfl
  · rw [if_pos (by omega), if_neg h]

set_option maxRecDepth 100000 in
set_option maxHeartbeats 2000000 in
theorem law5 (a0 : Option Addr) (len0 cap0 : Nat) (a1 : Option Addr) (len1 cap1 : Nat) (w : World) (h0 : len0 ≤ 4096) (h1 : len1 ≤ 4096)
    (hnone0 : a0 = none → len0 = 0 ∧ cap0 = 0) (z : Nat → Int) (hsrc0 : Src .i64 w a0 len0 z)
    (hnone1 : a1 = none → len1 = 0 ∧ cap1 = 0) (y : Nat → Int) (hsrc1 : Src .i64 w a1 len1 y) :
    Calls Try.prog 5 #[.slice a0 len0 cap0, .slice a1 len1 cap1] w fun e w' => e = .returned (.bool true) ∧ Below w.heap.size w w' := by
  have HN0 : Hid (a0 = none → len0 = 0 ∧ cap0 = 0) := hnone0
  have HN1 : Hid (a1 = none → len1 = 0 ∧ cap1 = 0) := hnone1
  clear hnone0 hnone1
  have hmk := run_make_row' (P := Try.prog) 43 30 (.pointer none) 8 Try.underlying43 info30 rfl .i64 .i64 len0 (by omega) (by omega)
  obtain ⟨i0, hi0, hz0, hz1, hz2⟩ := info_parts info30
  by_cases hpos : 0 < len0
  all_goals
    go_enter Try.func5, Try.ntmps5
    go_wp2_with (first 
      | (go_at_call 20; refine (bytes20 _ _ _ _ _ _ _ (by omega)).mono ?_; rintro e w' ⟨rfl, rfl⟩)
      | (go_at_call 8; refine (clone_any _ _ _ z _ (by omega) HN0.out hsrc0).mono ?_; rintro e w1 ⟨b0, rfl, hs0, hb1⟩; have hs1 := hsrc1.below hb1)
      | (go_at_call 21; refine (cloneInt_any _ _ _ y _ (by omega) HN1.out hs1).mono ?_; rintro e w2 ⟨b1, rfl, hs2, hb2⟩; have hs3 := hs0.below hb2)
      | (go_at_call 13; refine (buildQueue _ _ _ z _ (by omega) hs3).mono ?_; rintro e w3 ⟨rfl, hlk⟩; have cz : 0 < len0 → w3.cell? ⟨w2.heap.size, 0, none⟩ = some (.pointer (some ⟨w2.heap.size + 1 + 0, 0, none⟩)) := fun h => hlk.row.cell h; have cl : 0 < len0 → w3.cell? ⟨w2.heap.size, len0 - 1, none⟩ = some (.pointer (some ⟨w2.heap.size + 1 + (len0 - 1), 0, none⟩)) := fun h => hlk.row.cell (by omega))
      | (go_at_call 14; refine (newLevel _ _ _ _).mono ?_; rintro e w4 ⟨rfl, rfl⟩))
    obtain ⟨W, hW, hQ, hR, hB, hV, hS⟩ : ∃ W, w3.alloc (.cells #[.int .i64 0, .pointer (if 0 < len0 then some ⟨w2.heap.size + 1, 0, none⟩ else none), .pointer (if 0 < len0 then some ⟨w2.heap.size + 1 + (len0 - 1), 0, none⟩ else none)] 63) = W ∧
        Queue W w3.heap.size 0 len0 (fun i => w2.heap.size + 1 + i) (fun b => z (b - (w2.heap.size + 1))) ∧ W.rowIs w2.heap.size 30 len0 (fun t => .pointer (some ⟨w2.heap.size + 1 + t, 0, none⟩)) ∧
        Below w2.heap.size w2 W ∧ w2.heap.size + 1 ≤ w3.heap.size ∧ W.heap.size = w3.heap.size + 1 := scene5 hlk _ _ (hd_if (fun i => w2.heap.size + 1 + i) len0) (tl_if (fun i => w2.heap.size + 1 + i) len0)
    first | rw [if_pos hpos, if_pos hpos] at hW | rw [if_neg hpos, if_neg hpos] at hW
    rw [hW]
    clear hW hlk cz cl hs0 hs1 hs3 hsrc0 hsrc1 hmk
    have HQ : Hid (Queue W w3.heap.size 0 len0 (fun i => w2.heap.size + 1 + i) (fun b => z (b - (w2.heap.size + 1)))) := hQ
    clear hQ
    go_loopg [11] len0 (fun k i wr => ∃ j : Nat, j + k = len0 ∧ i = .int .i64 j ∧ Copied W (w3.heap.size + 1) len0 j (fun i => w2.heap.size + 1 + i) wr)
    case atStart => exact ⟨0, by omega, rfl, Copied.start W _ len0 _ hS⟩
    case round =>
      obtain ⟨j, hj, rfl, hcp⟩ := hrel
      by_cases hlt : j < len0
      · first
        | (exfalso; omega)
        | (skip
           have cj : wr.cell? ⟨w2.heap.size, j, none⟩ = some (.pointer (some ⟨w2.heap.size + 1 + j, 0, none⟩)) := (rowIs_below hR hcp.belW).cell hlt
           have cg : wr.cell? ⟨w3.heap.size + 1, j, none⟩ = some (.pointer none) := by have := hcp.row.cell hlt; simpa using this
           have fg := hcp.row.frozen j
           have HS : Hid (Copied W (w3.heap.size + 1) len0 (j + 1) (fun i => w2.heap.size + 1 + i) (wr.setCell ⟨w3.heap.size + 1, j, none⟩ (.pointer (some ⟨w2.heap.size + 1 + j, 0, none⟩)))) := hcp.step hlt
           clear hcp hR hs2
           go_wp2
           go_roundg (gk - 1)
           case measure => omega
           case rel => exact ⟨j + 1, by omega, by go_num, HS.out⟩)
      · have hje : j = len0 := by omega
        subst hje
        have HST : Hid (Script w2 w3.heap.size j j (fun i => w2.heap.size + 1 + i) (fun b => z (b - (w2.heap.size + 1))) (w3.heap.size + 1) wr) :=
          ⟨HQ.out.below hcp.belW, model_of_row (hcp.row.congr fun i hi => by simp [hi]), hB.trans (hcp.bel.mono (by omega)), by omega, fun i _ => by omega, Nat.le_refl _, by have := hcp.bel.size; omega⟩
        clear hcp hR HQ hB
        go_wp2
        have hB2 : Below w'.heap.size w' w2 := hb1.trans (hb2.mono hb1.size)
        clear hb1 hb2
        go_loopg [10, 12] len1 (fun k v i wr => ∃ (t m : Nat) (q : Nat → Nat) (g cap : Nat), t + k = len1 ∧ i = .int .i64 t ∧ v = .slice (some ⟨g, 0, none⟩) m cap ∧ Script w2 w3.heap.size j m q (fun b => z (b - (w2.heap.size + 1))) g wr)
        case atStart => exact ⟨0, j, _, _, _, by omega, rfl, rfl, HST.out⟩
        case round =>
          clear HST
          obtain ⟨t, m, q, g, cp, ht, rfl, rfl, hsc⟩ := hrel
          have hmj := hsc.le
          by_cases hlt : t < len1
          · obtain ⟨sb, so, rfl, c3⟩ := hs2 t hlt
            have cy : wr.cell? ⟨sb, so + t, none⟩ = some (.int .i64 (y t)) := (hsc.bel.cell (World.block_lt_of_cell? _ _ c3)).trans c3
            have HSC : Hid (Script w2 w3.heap.size j m q (fun b => z (b - (w2.heap.size + 1))) g wr) := hsc
            have HS2 : Hid (Src .i64 w2 (some ⟨sb, so, none⟩) len1 y) := hs2
            clear hsc c3 hs2
            by_cases hneg : y t < 0
            · go_wp2
              go_roundg (gk - 1)
              case measure => omega
              case rel => exact ⟨t + 1, m, q, g, cp, by omega, by go_num, rfl, HSC.out⟩
            · by_cases hge : (m : Int) ≤ y t
              · go_wp2
                go_roundg (gk - 1)
                case measure => omega
                case rel => exact ⟨t + 1, m, q, g, cp, by omega, by go_num, rfl, HSC.out⟩
              · first
                | (exfalso; omega)
                | (skip
                   obtain ⟨p, hp⟩ : ∃ p : Nat, y t = p := ⟨(y t).toNat, by omega⟩
                   rw [hp] at cy hneg hge
                   clear hp
                   have hpm : p < m := by omega
                   have hpm' : (p : Int) < (m : Int) := by omega
                   have co : wr.cell? ⟨g, p, none⟩ = some (.pointer (some ⟨q p, 0, none⟩)) := HSC.out.model.want p hpm
                   obtain ⟨n, hn⟩ : ∃ n, m = n + 1 := ⟨m - 1, by omega⟩
                   have HM : Hid (m = n + 1) := hn
                   have hQ : Queue wr w3.heap.size 0 (n + 1) q (fun b => z (b - (w2.heap.size + 1))) := by rw [← hn]; exact HSC.out.queue
                   have hM4 : Model wr g (n + 1) q := by rw [← hn]; exact HSC.out.model
                   have hmk := make_orders m (by omega)
                   clear hn
                   go_wp2_with (go_at_call 15; refine (zzRemove hQ (k := p) (by have := HM.out; omega)).mono ?_; rintro e W4 ⟨rfl, hrem⟩)
                   clear hmk co cy
                   have hmod : Model W4 g (n + 1) q := hM4.removed hQ hrem
                   have hB4 : Below w2.heap.size w2 W4 := HSC.out.bel.trans (hrem.belowOf HSC.out.lev (fun i hi => HSC.out.nod i (by have := HM.out; omega)))
                   have REM : Hid (Removed wr W4 w3.heap.size 0 n q (fun b => z (b - (w2.heap.size + 1))) p) := hrem
                   have HMOD : Hid (Model W4 g (n + 1) q) := hmod
                   have HB4 : Hid (Below w2.heap.size w2 W4) := hB4
                   have HLEV : Hid (w2.heap.size ≤ w3.heap.size ∧ ∀ i, i < n + 1 → w2.heap.size ≤ q i) := ⟨HSC.out.lev, fun i hi => HSC.out.nod i (by have := HM.out; omega)⟩
                   clear hrem hQ hM4 hmod hB4 HSC
                   go_loopg [15, 16] m (fun k v i wr => ∃ j c : Nat, j + k = m ∧ i = .int .i64 j ∧ Hid (c = if j ≤ p then j else j - 1) ∧ v = .slice (some ⟨W4.heap.size, 0, none⟩) c m ∧
                     wr.ownsRow 0 30 1 (.slice (some ⟨W4.heap.size, 0, none⟩) c m) c (ptrs (del q p) c) ∧ Below W4.heap.size W4 wr)
                   case atStart => exact ⟨0, 0, by omega, rfl, (if_pos (Nat.zero_le _)).symm, rfl, owns_made W4 m (by omega) _, (Below.refl _ _).alloc (Nat.le_refl _) _⟩
                   case round =>
                     obtain ⟨x, c, hx, rfl, hc, rfl, hown, hbel⟩ := hrel
                     by_cases hxl : x < m
                     · have cj : wr.cell? ⟨g, x, none⟩ = some (.pointer (some ⟨q x, 0, none⟩)) := (HMOD.out.below hbel).want x (by have := HM.out; omega)
                       by_cases hxp : x = p
                       · subst hxp
                         have hc' : c = x := by have := hc.out; rw [if_pos (Nat.le_refl _)] at this; exact this
                         subst hc'
                         have hne : ((c : Int) != (c : Int)) = false := by simp
                         go_wp2
                         go_roundg (gk - 1)
                         case measure => omega
                         case rel => exact ⟨c + 1, c, by omega, by go_num, cnt_same, rfl, hown, hbel⟩
                       · have hc2 := hc.out
                         have hcl : c < m := by rw [hc2]; split <;> omega
                         have HNEW : Hid (ptrs (del q p) (c + 1) = ptrs (del q p) c ++ [.pointer (some ⟨q x, 0, none⟩)]) := by
                           show ptrs (del q p) (c + 1) = _
                           rw [ptrs_succ, del_at hc2 hxp]
                         have hne : ((x : Int) != (p : Int)) = true := by simp; omega
                         clear hc2
                         go_wp2_with (at_builtin; refine wpList_append_fits _ rfl (.tmp 101) (.tmp 106) 43 rfl 0 30 i0 1 Try.underlying43 hi0 hz1 W4.heap.size c m _ rfl (hown.alloc _) ⟨wr.heap.size, 0, none⟩ 1 1 [.pointer (some ⟨q x, 0, none⟩)] rfl rfl (cell_one_new _ _ _) (by intro u hu; simp at hu; subst hu; rfl) (by omega) ?_; intro w5 hown5 hg5)
                         go_roundg (gk - 1)
                         case measure => omega
                         case rel => exact ⟨x + 1, c + 1, by omega, by go_num, cnt_next hc.out hxp, rfl, by rw [HNEW.out]; exact hown5, (hbel.alloc (by have := hbel.size; omega) _).grown hg5 (by have := hbel.size; simp; omega) (fun b hb => by simp at hb; omega)⟩
                     · have hxe : x = m := by omega
                       subst hxe
                       have hcm : c = n := by
                         have h1 := HM.out
                         have h2 := hc.out
                         rw [h1] at h2
                         exact cnt_end (by omega) h2
                       subst hcm
                       have hQ5 := REM.out.queue.below hbel
                       have hM5 := model_of_owns hown
                       have hG5 : wr.heap[q p]? = some (.cells (nodeC (z (q p - (w2.heap.size + 1))) none none) 39 (0, 0)) := (hbel.block _ (Array.getElem?_eq_some_iff.1 REM.out.gone).1).trans REM.out.gone
                       have g15 : wr.cell? ⟨q p, 15, none⟩ = some (.pointer none) := cell_of_row _ _ 15 _ 39 (0, 0) hG5
                       have g16 : wr.cell? ⟨q p, 16, none⟩ = some (.pointer none) := cell_of_row _ _ 16 _ 39 (0, 0) hG5
                       have hcb : c ≤ 1048576 := by have := HM.out; omega
                       have HSC : Hid (Script w2 w3.heap.size j c (del q p) (fun b => z (b - (w2.heap.size + 1))) W4.heap.size wr) :=
                         ⟨hQ5, hM5, HB4.out.trans (hbel.mono HB4.out.size), HLEV.out.1, fun i hi => by unfold del; split <;> exact HLEV.out.2 _ (by omega), by have := HM.out; omega, by have := hbel.size; have := HB4.out.size; omega⟩
                       clear hown hQ5 hM5 hG5 REM HMOD hbel HB4 HLEV
                       go_wp2_with (first
                         | (go_at_call 17; refine (zzPrev _ _ _ g15).mono ?_; rintro e w5 ⟨rfl, rfl⟩)
                         | (go_at_call 18; refine (zzNext _ _ _ g16).mono ?_; rintro e w5 ⟨rfl, rfl⟩)
                         | (go_at_call 16; refine (queueIs HSC.out.queue _ _ hcb HSC.out.model.want).mono ?_; rintro e w5 ⟨rfl, rfl⟩))
                       go_roundg (len1 - (t + 1))
                       case measure => omega
                       case rel => exact ⟨t + 1, c, del q p, W4.heap.size, _, by omega, by go_num, rfl, HSC.out⟩)
          · go_wp2
            go_ret
            exact ⟨rfl, hB2.trans (hsc.bel.mono hB2.size)⟩
end Go.Proofs.Qxb6601723a
