import Derived.Test.Qxb6601770aO
namespace Go.Proofs.Qxb6601770a
open Go.RowKit
set_option linter.unusedVariables false

set_option maxHeartbeats 2000000 in
theorem endF_3 (D base : Nat) (l : List Int) (N g cap s : Nat) (w : World) (h : Der w D base l N (some ⟨g, 0, none⟩) cap) (hgD : g ≠ D) (hgb : base ≤ g) (hbs : base ≤ w.heap.size) (hN : N ≤ 16777216) (h1 : 1 ≤ s) (h2 : s ≤ N) (n : Int) (e1 : (N : Int) - (s : Int) = n) (i3 : 65536 ≤ n) (i4 : n < 16777216) (HY : Hid (lenT (N - s) = [131, n / 65536, n / 256 % 256, n % 256])) :
    Calls Try.prog 25 #[.pointer (some ⟨D, 0, none⟩), .int .i64 (s : Int)] w fun e w' => e = .returned (.tuple #[]) ∧ Bw base D (.slice (some ⟨g, 0, none⟩) N cap) w w' ∧ ∃ ao cap', Der w' D base (endL l s) (N + 3) ao cap' ∧ Fr w (.slice (some ⟨g, 0, none⟩) N cap) (.slice ao (N + 3) cap') := by
  have hc := h.cell
  have hfz := h.frozen
  have H : Hid (Der w D base l N (some ⟨g, 0, none⟩) cap) := h
  have HN : Hid ((N : Int) - (s : Int) = n) := e1
  clear h
  go_enter Try.func25, Try.ntmps25
  go_wp2
  go_loopg [5, 6] 3 (fun r sz m wr => ((r = 3 ∧ sz = .int .i64 0 ∧ m = .int .i64 n) ∨ (r = 2 ∧ sz = .int .i64 1 ∧ m = .int .i64 (n / 256)) ∨ (r = 1 ∧ sz = .int .i64 2 ∧ m = .int .i64 (n / 256 / 256)) ∨ (r = 0 ∧ sz = .int .i64 3 ∧ m = .int .i64 (n / 256 / 256 / 256))) ∧ wr = w)
  case atStart => exact ⟨.inl ⟨rfl, rfl, rfl⟩, rfl⟩
  case round =>
    obtain ⟨hcase, hww⟩ := hrel
    have hww' := hww.symm
    subst hww'
    clear hww
    rcases hcase with ⟨rfl, rfl, rfl⟩ | ⟨rfl, rfl, rfl⟩ | ⟨rfl, rfl, rfl⟩ | ⟨rfl, rfl, rfl⟩
    · go_wp2
      go_roundg 2
      case measure => omega
      case rel => exact ⟨.inr (.inl ⟨rfl, rfl, rfl⟩), rfl⟩
    · go_wp2
      go_roundg 1
      case measure => omega
      case rel => exact ⟨.inr (.inr (.inl ⟨rfl, rfl, rfl⟩)), rfl⟩
    · go_wp2
      go_roundg 0
      case measure => omega
      case rel => exact ⟨.inr (.inr (.inr (⟨rfl, rfl, rfl⟩))), rfl⟩
    · have hq : (n / 256 / 256 / 256) ≤ 0 := by omega
      go_wp2_with (at_builtin; refine wpList_appendedF _ rfl (.tmp 34) (.tmp 35) 39 3 rfl 5 base _ _ N 3 (N + 3) rfl (U l) (U (List.replicate 3 0)) rfl rfl (fun ty => app_zerosF 3 (by omega) H.out.own (by omega) hbs) ?_; intro ao1 c1 w1 hown1 hg1 hfr1; have hbx : w1.heap[D]? = some (.cells #[.slice (some ⟨g, 0, none⟩) N cap] 39 (0, 0)) := H.out.kept (Below.refl _ _) hg1; have hcx : w1.cell? ⟨D, 0, none⟩ = some (.slice (some ⟨g, 0, none⟩) N cap) := cell_of_row _ _ 0 _ 39 (0, 0) hbx; have hfx : w1.frozen? ⟨D, 0, none⟩ = false := frozen_of_row _ _ 0 _ 39 hbx; obtain ⟨g1, cur, rfl, hgb1, hgc, hNc, hcm, hcs, htk⟩ := owns_shape hown1 (by omega); have FRR : Hid (Fr w (.slice (some ⟨g, 0, none⟩) N cap) (.slice (some ⟨g1, 0, none⟩) (N + 3) c1)) := hfr1; have FR : Hid ((Value.slice (some ⟨g, 0, none⟩) N cap).ownBlock = some g1 ∨ w.heap.size ≤ g1) := hfr1 g1 rfl; clear hfr1)
      have hB2 : Bw base D (.slice (some ⟨g, 0, none⟩) N cap) w (w1.setCell ⟨D, 0, none⟩ (.slice (some ⟨g1, 0, none⟩) (N + 3) c1)) := ((Bw.refl _ _ _ _).grown H.out.own hg1 hbs).setD H.out.lo _
      obtain ⟨W2, hW2, hD2, hB2⟩ : ∃ W2, w1.setCell ⟨D, 0, none⟩ (.slice (some ⟨g1, 0, none⟩) (N + 3) c1) = W2 ∧ Der W2 D base (l ++ List.replicate 3 0) (N + 3) (some ⟨g1, 0, none⟩) c1 ∧ Bw base D (.slice (some ⟨g, 0, none⟩) N cap) w W2 := ⟨_, rfl, Der.stored hbx hown1 (by simp; have := H.out.len; omega) H.out.lo, hB2⟩
      rw [hW2]
      clear hW2 hcx hfx hbx hg1 hown1 hgc htk hcs hc hfz
      have hc2 := hD2.cell
      have e2 : (s : Int) + n = (N : Int) := by omega
      have j1 : (0 : Int) ≤ (s : Int) + 3 := by omega
      have j2 : (s : Int) + 3 ≤ (N : Int) + 3 := by omega
      have j3 : (N : Int) + 3 ≤ (c1 : Int) := by omega
      have j4 : (s : Int) ≤ (N : Int) := by omega
      have j5 : N ≤ c1 := by omega
      have k1 : IntKind.i64.wrap ((s : Int) + 3) = (s : Int) + 3 := by rw [IntKind.wrap_i64]; omega
      have k2 : IntKind.i64.wrap (N : Int) = (N : Int) := by rw [IntKind.wrap_i64]; omega
      have q1 : c1 ≠ s + 3 := by omega
      have q2 : c1 ≠ s := by omega
      obtain ⟨cur, hcur, hcsz, hctk⟩ : ∃ cur : List Value, W2.heap[g1]? = some (.cells cur.toArray 5 (0, 0)) ∧ cur.length = c1 ∧ cur.take (N + 3) = U (l ++ List.replicate 3 0) := by
        obtain ⟨g', cur, hg', _, hh, _, _, hsz, htk⟩ := owns_shape hD2.own (by omega)
        simp at hg'
        subst hg'
        exact ⟨cur.toList, by simpa using hh, by simpa using hsz, htk⟩
      have hcl : (U (l.drop s)).length = N - s := by rw [U_length, List.length_drop, H.out.len]
      have HCT : Hid (cur.take (N + 3) = U (l ++ List.replicate 3 0)) := hctk
      have HCL : Hid ((U (l.drop s)).length = N - s) := hcl
      have HCZ : Hid (cur.length = c1) := hcsz
      have HCU : Hid (W2.heap[g1]? = some (.cells cur.toArray 5 (0, 0))) := hcur
      have HB2 : Hid (Bw base D (.slice (some ⟨g, 0, none⟩) N cap) w W2) := hB2
      have HD2 : Hid (Der W2 D base (l ++ List.replicate 3 0) (N + 3) (some ⟨g1, 0, none⟩) c1) := hD2
      clear hctk hcl hcsz hcur hB2 hD2
      have k3 : ((s : Int) + 3).toNat = s + 3 := by omega
      have hsrc : ∀ j v, (U (l.drop s))[j]? = some v → W2.drew.cell? ((⟨g1, s, none⟩ : Addr).add j) = some v := by
        intro j v hv
        have hjl : j < (l.drop s).length := by
          have := (List.getElem?_eq_some_iff.1 hv).1
          rwa [U_length] at this
        rw [U_get _ _ hjl] at hv
        have hlen := H.out.len
        rw [List.length_drop] at hjl
        rw [Go.WideShapes.add_plain]
        have := HD2.out.at (j := s + j) (by omega)
        rw [← hv]
        refine (show W2.drew.cell? ⟨g1, s + j, none⟩ = W2.cell? ⟨g1, s + j, none⟩ from rfl).trans (this.trans ?_)
        simp [List.getD, List.getElem?_append, List.getElem?_drop]
        rw [if_pos (by omega)]
      have HSRC : Hid (∀ j v, (U (l.drop s))[j]? = some v → W2.drew.cell? ((⟨g1, s, none⟩ : Addr).add j) = some v) := hsrc
      obtain ⟨_, hge, _, hne0⟩ := HD2.out.shape (by omega)
      simp at hge
      subst hge
      have hne1 : D ≠ g1 := Ne.symm hne0
      have hkeep : ∀ cs, (W2.drew.setRow g1 cs).cell? ⟨D, 0, none⟩ = some (.slice (some ⟨g1, 0, none⟩) (N + 3) c1) := fun cs => (World.cell?_of_block (a := ⟨D, 0, none⟩) (setRow_other W2.drew g1 D cs hne1)).trans hc2
      clear hsrc
      go_region_held3 (fun w' => w'.cell? ⟨D, 0, none⟩ = some (.slice (some ⟨g1, 0, none⟩) (N + 3) c1)) (first | exact hkeep _ | go_keep)
        ((go_loud (refine step_copy_exact (w := W2.drew) rfl (.tmp 44) (.tmp 52) 39 39 rfl 5 Try.underlying39 (by kernel_rfl) g1 (s + 3) s _ _ _ _ rfl rfl cur 5 HCU.out (U (l.drop s)) (by rw [HCL.out]; show _ = min _ _; omega) HSRC.out (by rw [HCL.out, HCZ.out]; omega) (U_one _) ?_)))
      obtain ⟨X, hXl, hX⟩ := moved l s 3 h1 (by have := H.out.len; omega)
      obtain ⟨W3, hW3, hD3, hB3⟩ : ∃ W3, W2.drew.setRow g1 (splice cur (s + 3) (U (l.drop s))).toArray = W3 ∧ Der W3 D base (l.take (s - 1) ++ X ++ l.drop s) (N + 3) (some ⟨g1, 0, none⟩) c1 ∧ Bw base D (.slice (some ⟨g, 0, none⟩) N cap) w W3 :=
        ⟨_, rfl, by rw [← hX]; exact der_moved HD2.out hne0 H.out.len h2 HCU.out HCZ.out HCT.out hNc hcm hgb1, HB2.out.drew.setRow hgb1 FR.out _⟩
      rw [hW3]
      match X, hXl with
      | [x0, x1, x2, x3], _ =>
      rename_i hHeld
      clear hW3 hX hHeld HSRC HCU HCZ HCL HCT HB2 HD2 hkeep hc2
      have hA : (l.take (s - 1)).length = s - 1 := by rw [List.length_take]; have := H.out.len; omega
      have HA : Hid ((l.take (s - 1)).length = s - 1) := hA
      have hc3 := hD3.cell
      have hcs := hD3.at (j := s - 1) (by omega)
      have hfs := hD3.own.frozenAt (s - 1)
      have HD4 : Hid (Der (W3.setCell ⟨g1, s - 1, none⟩ (.int .u8 131)) D base (l.take (s - 1) ++ [131, x1, x2, x3] ++ l.drop s) (N + 3) (some ⟨g1, 0, none⟩) c1) := hD3.putMid hne0 (s - 1) 0 (s - 1) 131 hA (by simp) rfl
      have HB4 : Hid (Bw base D (.slice (some ⟨g, 0, none⟩) N cap) w (W3.setCell ⟨g1, s - 1, none⟩ (.int .u8 131))) := hB3.setCell hgb1 FR.out _
      have i5 : (1 : Int) ≤ (s : Int) := by omega
      clear hA hD3 hB3
      go_wp2
      go_loopg [64] 3 (fun r t wx => ((r = 3 ∧ t = .int .i64 0 ∧ Der wx D base (l.take (s - 1) ++ [131, x1, x2, x3] ++ l.drop s) (N + 3) (some ⟨g1, 0, none⟩) c1) ∨ (r = 2 ∧ t = .int .i64 1 ∧ Der wx D base (l.take (s - 1) ++ [131, n / 65536, x2, x3] ++ l.drop s) (N + 3) (some ⟨g1, 0, none⟩) c1) ∨ (r = 1 ∧ t = .int .i64 2 ∧ Der wx D base (l.take (s - 1) ++ [131, n / 65536, n / 256 % 256, x3] ++ l.drop s) (N + 3) (some ⟨g1, 0, none⟩) c1) ∨ (r = 0 ∧ t = .int .i64 3 ∧ Der wx D base (l.take (s - 1) ++ [131, n / 65536, n / 256 % 256, n % 256] ++ l.drop s) (N + 3) (some ⟨g1, 0, none⟩) c1)) ∧ Bw base D (.slice (some ⟨g, 0, none⟩) N cap) w wx)
      case atStart => exact ⟨.inl ⟨rfl, rfl, HD4.out⟩, HB4.out⟩
      case round =>
        obtain ⟨hcase, hbx⟩ := hrel
        clear HD4 HB4 hfs hcs hc3
        rcases hcase with ⟨rfl, rfl, hD5⟩ | ⟨rfl, rfl, hD5⟩ | ⟨rfl, rfl, hD5⟩ | ⟨rfl, rfl, hD5⟩
        · have hc5 := hD5.cell
          have hcs := hD5.at (j := s) (by omega)
          have hfs := hD5.own.frozenAt (s)
          have m1 : (s : Int) < (N : Int) + 3 := by omega
          have m2 : (0 : Int) ≤ (s : Int) := by omega
          have m3 : IntKind.i64.wrap ((s : Int)) = (s : Int) := by rw [IntKind.wrap_i64]; omega
          have m4 : ((s : Int)).toNat = s := by omega
          have HD6 : Hid (Der (wr.setCell ⟨g1, s, none⟩ (.int .u8 (n / 65536))) D base (l.take (s - 1) ++ [131, n / 65536, x2, x3] ++ l.drop s) (N + 3) (some ⟨g1, 0, none⟩) c1) := hD5.putMid hne0 (s - 1) 1 (s) (n / 65536) HA.out (by simp) (by omega)
          have v0 : IntKind.i64.wrap 0 = 0 := by decide
          have v1 : IntKind.i64.wrap 1 = 1 := by decide
          have v2 : IntKind.i64.wrap 2 = 2 := by decide
          have v8 : IntKind.i64.wrap 8 = 8 := by decide
          have v16 : IntKind.i64.wrap 16 = 16 := by decide
          have vU : IntKind.u8.wrap (n / 65536) = n / 65536 := by rw [IntKind.wrap_u8]; omega
          clear hD5 k1 k2 k3 j1 j2 j3 j4 j5 q1 q2 hq
          go_wp2
          go_region_held3 (fun w' => w'.cell? ⟨D, 0, none⟩ = some (.slice (some ⟨g1, 0, none⟩) (N + 3) c1)) (go_keep) (fail)
          go_wp2
          go_roundg 2
          case measure => omega
          case rel => exact ⟨.inr (.inl ⟨rfl, rfl, HD6.out.drew⟩), (hbx.setCell hgb1 FR.out _).drew⟩
        · have hc5 := hD5.cell
          have hcs := hD5.at (j := s + 1) (by omega)
          have hfs := hD5.own.frozenAt (s + 1)
          have m1 : (s : Int) + 1 < (N : Int) + 3 := by omega
          have m2 : (0 : Int) ≤ (s : Int) + 1 := by omega
          have m3 : IntKind.i64.wrap ((s : Int) + 1) = (s : Int) + 1 := by rw [IntKind.wrap_i64]; omega
          have m4 : ((s : Int) + 1).toNat = s + 1 := by omega
          have HD6 : Hid (Der (wr.setCell ⟨g1, s + 1, none⟩ (.int .u8 (n / 256 % 256))) D base (l.take (s - 1) ++ [131, n / 65536, n / 256 % 256, x3] ++ l.drop s) (N + 3) (some ⟨g1, 0, none⟩) c1) := hD5.putMid hne0 (s - 1) 2 (s + 1) (n / 256 % 256) HA.out (by simp) (by omega)
          have v0 : IntKind.i64.wrap 0 = 0 := by decide
          have v1 : IntKind.i64.wrap 1 = 1 := by decide
          have v2 : IntKind.i64.wrap 2 = 2 := by decide
          have v8 : IntKind.i64.wrap 8 = 8 := by decide
          have v16 : IntKind.i64.wrap 16 = 16 := by decide
          have vU : IntKind.u8.wrap (n / 256) = n / 256 % 256 := by rw [IntKind.wrap_u8]
          clear hD5 k1 k2 k3 j1 j2 j3 j4 j5 q1 q2 hq
          go_wp2
          go_region_held3 (fun w' => w'.cell? ⟨D, 0, none⟩ = some (.slice (some ⟨g1, 0, none⟩) (N + 3) c1)) (go_keep) (fail)
          go_wp2
          go_roundg 1
          case measure => omega
          case rel => exact ⟨.inr (.inr (.inl ⟨rfl, rfl, HD6.out.drew⟩)), (hbx.setCell hgb1 FR.out _).drew⟩
        · have hc5 := hD5.cell
          have hcs := hD5.at (j := s + 2) (by omega)
          have hfs := hD5.own.frozenAt (s + 2)
          have m1 : (s : Int) + 2 < (N : Int) + 3 := by omega
          have m2 : (0 : Int) ≤ (s : Int) + 2 := by omega
          have m3 : IntKind.i64.wrap ((s : Int) + 2) = (s : Int) + 2 := by rw [IntKind.wrap_i64]; omega
          have m4 : ((s : Int) + 2).toNat = s + 2 := by omega
          have HD6 : Hid (Der (wr.setCell ⟨g1, s + 2, none⟩ (.int .u8 (n % 256))) D base (l.take (s - 1) ++ [131, n / 65536, n / 256 % 256, n % 256] ++ l.drop s) (N + 3) (some ⟨g1, 0, none⟩) c1) := hD5.putMid hne0 (s - 1) 3 (s + 2) (n % 256) HA.out (by simp) (by omega)
          have v0 : IntKind.i64.wrap 0 = 0 := by decide
          have v1 : IntKind.i64.wrap 1 = 1 := by decide
          have v2 : IntKind.i64.wrap 2 = 2 := by decide
          have v8 : IntKind.i64.wrap 8 = 8 := by decide
          have v16 : IntKind.i64.wrap 16 = 16 := by decide
          have vU : IntKind.u8.wrap (n) = n % 256 := by rw [IntKind.wrap_u8]
          clear hD5 k1 k2 k3 j1 j2 j3 j4 j5 q1 q2 hq
          go_wp2
          go_region_held3 (fun w' => w'.cell? ⟨D, 0, none⟩ = some (.slice (some ⟨g1, 0, none⟩) (N + 3) c1)) (go_keep) (fail)
          go_wp2
          go_roundg 0
          case measure => omega
          case rel => exact ⟨.inr (.inr (.inr (⟨rfl, rfl, HD6.out.drew⟩))), (hbx.setCell hgb1 FR.out _).drew⟩
        · go_wp2
          go_end0
          exact ⟨rfl, hbx, _, _, by rw [endL_is H.out.len HY.out]; exact hD5, FRR.out⟩

end Go.Proofs.Qxb6601770a
