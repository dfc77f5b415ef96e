import Derived.Test.Qxb6601770aR
namespace Go.Proofs.Qxb6601770a
open Go.RowKit
set_option linter.unusedVariables false

/-- A store into a block that is neither the variable's nor the slice's. -/
theorem Der.other {w : World} {D base N : Nat} {l : List Int} {ao : Option Addr} {cap b j : Nat} (h : Der w D base l N ao cap) (hb : b ≠ D) (hne : some b ≠ (Value.slice ao N cap).ownBlock) (u : Value) : Der (w.setCell ⟨b, j, none⟩ u) D base l N ao cap := by
  refine ⟨?_, ⟨h.own.1, ?_⟩, h.len, h.lo⟩
  · rw [heap_setCell_other w ⟨b, j, none⟩ D _ (Ne.symm hb)]
    exact h.box
  · rcases h.own.2 with h' | ⟨g, c, cur, h', h2, hg, r⟩
    · exact .inl h'
    · refine .inr ⟨g, c, cur, h', h2, ?_, r⟩
      rw [heap_setCell_other w ⟨b, j, none⟩ g _ (fun e => ?_)]
      · exact hg
      · simp at e
        rw [h'] at hne
        simp [Value.ownBlock] at hne
        exact hne e.symm

/-- The pair of starts in memory, beside the builder. -/
structure Pair (w : World) (S : Nat) (x y : Int) : Prop where
  blk : w.heap[S]? = some (.cells #[.int .i64 x, .int .i64 y] 36 (0, 0))

section
variable {w w' : World} {S D base N : Nat} {x y : Int} {l : List Int} {ao : Option Addr} {cap : Nat}
theorem Pair.c0 (h : Pair w S x y) : w.cell? ⟨S, 0, none⟩ = some (.int .i64 x) := cell_of_row _ _ 0 _ 36 (0, 0) h.blk
theorem Pair.c1 (h : Pair w S x y) : w.cell? ⟨S, 1, none⟩ = some (.int .i64 y) := cell_of_row _ _ 1 _ 36 (0, 0) h.blk
theorem Pair.fz (h : Pair w S x y) (j : Nat) : w.frozen? ⟨S, j, none⟩ = false := frozen_of_row _ _ j _ 36 h.blk
theorem Pair.lt (h : Pair w S x y) : S < w.heap.size := (Array.getElem?_eq_some_iff.1 h.blk).1
theorem Pair.off (h : Pair w S x y) (hd : Der w D base l N ao cap) : S ≠ D ∧ some S ≠ (Value.slice ao N cap).ownBlock := ⟨ne_box hd h.blk (by decide), ne_own hd.own h.blk (by decide)⟩
theorem Pair.bw (h : Pair w S x y) (hd : Der w D base l N ao cap) (hw : Bw base D (.slice ao N cap) w w') : Pair w' S x y := ⟨(hw.keep S h.lt (h.off hd).1 (h.off hd).2).trans h.blk⟩
theorem Pair.grown (h : Pair w S x y) (hd : Der w D base l N ao cap) (hg : w.grownBy w' (Value.slice ao N cap).ownBlock) : Pair w' S x y := ⟨(hg.block S h.lt (h.off hd).2).trans h.blk⟩
theorem Pair.setD (h : Pair w S x y) (hSD : S ≠ D) (u : Value) : Pair (w.setCell ⟨D, 0, none⟩ u) S x y := ⟨(heap_setCell_other w ⟨D, 0, none⟩ S _ hSD).trans h.blk⟩
theorem Pair.alloc (h : Pair w S x y) (o : Obj) : Pair (w.alloc o) S x y := ⟨(Below.heap_alloc _ _ _ h.lt).trans h.blk⟩
theorem Pair.set0 (h : Pair w S x y) (z : Int) : Pair (w.setCell ⟨S, 0, none⟩ (.int .i64 z)) S z y := ⟨heap_setCell_same w S 0 _ 36 _ h.blk⟩
theorem Pair.set1 (h : Pair w S x y) (z : Int) : Pair (w.setCell ⟨S, 1, none⟩ (.int .i64 z)) S x z := ⟨heap_setCell_same w S 1 _ 36 _ h.blk⟩
end

set_option maxRecDepth 100000 in
set_option maxHeartbeats 1000000 in
theorem beginExt_false (D base : Nat) (l : List Int) (N : Nat) (ao : Option Addr) (cap : Nat) (oa : Option Addr) (m oc : Nat) (lo : List Int) (w : World) (h : Der w D base l N ao cap) (hbs : base ≤ w.heap.size) (hN : N + m ≤ 2097152)
    (hm : lo.length = m) (ro : ∀ w', Below base w w' → Rd w' oa lo) (no : oa = none → m = 0) :
    Calls Try.prog 27 #[.pointer (some ⟨D, 0, none⟩), .slice oa m oc, .bool false] w fun e w' => ∃ (N2 : Nat) (ao' : Option Addr) (cap' : Nat), e = .returned (.agg #[.int .i64 ((N : Int) + 2), .int .i64 ((N2 : Int) + 2)]) ∧ Bw base D (.slice ao N cap) w w' ∧
      Der w' D base (l ++ [48, 0] ++ lo ++ [4, 0]) (N2 + 2) ao' cap' := by
  have H : Hid (Der w D base l N ao cap) := h
  have RO : Hid (∀ w', Below base w w' → Rd w' oa lo) := ro
  have NO : Hid (oa = none → m = 0) := no
  have HM : Hid (lo.length = m) := hm
  have hb0 : Bw base D (.slice ao N cap) w (w.alloc (.cells #[.int .i64 0, .int .i64 0] 36)) := (Bw.refl _ _ _ _).alloc hbs _
  have hd0 : Der (w.alloc (.cells #[.int .i64 0, .int .i64 0] 36)) D base l N ao cap := h.below ((Below.refl _ _).alloc (Nat.le_refl _) _)
  have hp0 : Pair (w.alloc (.cells #[.int .i64 0, .int .i64 0] 36)) w.heap.size 0 0 := ⟨heap_alloc_new w _⟩
  clear ro no hm h
  go_enter Try.func27, Try.ntmps27
  go_wp2_with fail
  refine (beginF D base l N ao cap 48 _ hd0 (by omega) (by simp; omega)).mono ?_
  rintro e w1 ⟨rfl, hw1, ao1, c1, hd1, hf1⟩
  have hp1 := hp0.bw hd0 hw1
  have hb1 : Bw base D (.slice ao N cap) w w1 := hb0.trans (Fr.refl _ _) hw1
  have hF1 : Fr w (.slice ao N cap) (.slice ao1 (N + 2) c1) := (Fr.refl w _).trans (by simp) hf1
  have HF1 : Hid (Fr w (.slice ao N cap) (.slice ao1 (N + 2) c1)) := hF1
  clear hf1 hF1
  have hsd := hp1.off hd1
  have cS := hp1.c0
  have fS := hp1.fz 0
  have hd2 : Der (w1.setCell ⟨w.heap.size, 0, none⟩ (.int .i64 ((N : Int) + 2))) D base (l ++ [48, 0]) (N + 2) ao1 c1 := hd1.other hsd.1 hsd.2 _
  have hp2 := hp1.set0 ((N : Int) + 2)
  have hb2 : Bw base D (.slice ao N cap) w (w1.setCell ⟨w.heap.size, 0, none⟩ (.int .i64 ((N : Int) + 2))) := hb1.setCell hbs (.inr (Nat.le_refl _)) _
  have cD := hd2.cell
  have hz2 := hb2.bel.size
  obtain ⟨hSD, _⟩ := hsd
  clear hd0 hp0 hb0 hw1 hp1 hd1 hb1
  go_wp2_with (first
    | (at_builtin; refine wpList_appendedF _ rfl (.tmp 13) (.tmp 14) 39 22 rfl 5 base _ _ (N + 2) m (N + 2 + m) rfl (U (l ++ [48, 0])) (U lo) rfl rfl (fun ty => app_rdF Try.underlying39 Try.underlying22 hd2.own (RO.out _ hb2.bel) HM.out NO.out (by omega) (by omega)) ?_; intro ao3 c3 w3 hown3 hg3 hfr3; have FR3 : Hid (Fr (w1.setCell ⟨w.heap.size, 0, none⟩ (.int .i64 ((N : Int) + 2))) (.slice ao1 (N + 2) c1) (.slice ao3 (N + 2 + m) c3)) := hfr3; clear hfr3; have hbx : w3.heap[D]? = some (.cells #[.slice ao1 (N + 2) c1] 39 (0, 0)) := hd2.kept (Below.refl _ _) hg3; have hcx : w3.cell? ⟨D, 0, none⟩ = some (.slice ao1 (N + 2) c1) := cell_of_row _ _ 0 _ 39 (0, 0) hbx; have hfx : w3.frozen? ⟨D, 0, none⟩ = false := frozen_of_row _ _ 0 _ 39 hbx; have hp3 := hp2.grown hd2 hg3; have hb3 : Bw base D (.slice ao N cap) w w3 := hb2.trans HF1.out ((Bw.refl _ _ _ _).grown hd2.own hg3 (by omega)); have HF3 : Hid (Fr w (.slice ao N cap) (.slice ao3 (N + 2 + m) c3)) := HF1.out.trans hz2 FR3.out)
    )
  obtain ⟨W4, hW4, N2, hN2, hd4, hp4, hb4, hF4⟩ : ∃ W4, w3.setCell ⟨D, 0, none⟩ (.slice ao3 (N + 2 + m) c3) = W4 ∧ ∃ N2, Hid (N2 = N + 2 + m) ∧ Der W4 D base (l ++ [48, 0] ++ lo) N2 ao3 c3 ∧ Pair W4 w.heap.size ((N : Int) + 2) 0 ∧ Bw base D (.slice ao N cap) w W4 ∧ Fr w (.slice ao N cap) (.slice ao3 N2 c3) :=
    ⟨_, rfl, _, rfl, Der.stored hbx hown3 (by have := H.out.len; have := HM.out; simp; omega) H.out.lo, hp3.setD hSD _, hb3.setD H.out.lo _, HF3.out⟩
  rw [hW4]
  clear hW4 hbx hcx hfx hown3 hg3 hp3 hb3 hd2 hp2 hb2 cD hz2 cS fS
  have hN2b : N2 ≤ 4194304 := by rw [hN2.out]; omega
  have hz4 := hb4.bel.size
  refine (beginF D base _ N2 ao3 c3 4 W4 hd4 (by omega) (by omega)).mono ?_
  rintro e w7 ⟨rfl, hw7, ao7, c7, hd7, _⟩
  have hp7 := hp4.bw hd4 hw7
  have hb7 : Bw base D (.slice ao N cap) w w7 := hb4.trans hF4 hw7
  have c70 := hp7.c0
  have c71 := hp7.c1
  have f70 := hp7.fz 0
  have f71 := hp7.fz 1
  have HP7 : Hid (Pair w7 w.heap.size ((N : Int) + 2) 0) := hp7
  have HD7 : Hid (Der w7 D base (l ++ [48, 0] ++ lo ++ [4, 0]) (N2 + 2) ao7 c7) := hd7
  have HB7 : Hid (Bw base D (.slice ao N cap) w w7) := hb7
  clear hp7 hd7 hb7
  go_wp2
  have hoff := HP7.out.off HD7.out
  have hpF := ((HP7.out.set1 ((N2 : Int) + 2)).set0 ((N : Int) + 2)).set1 ((N2 : Int) + 2)
  have hdF := ((HD7.out.other (j := 1) hoff.1 hoff.2 (.int .i64 ((N2 : Int) + 2))).other (j := 0) hoff.1 hoff.2 (.int .i64 ((N : Int) + 2))).other (j := 1) hoff.1 hoff.2 (.int .i64 ((N2 : Int) + 2))
  have hbF := ((HB7.out.setCell (g := w.heap.size) (j := 1) hbs (.inr (Nat.le_refl _)) (.int .i64 ((N2 : Int) + 2))).setCell (g := w.heap.size) (j := 0) hbs (.inr (Nat.le_refl _)) (.int .i64 ((N : Int) + 2))).setCell (g := w.heap.size) (j := 1) hbs (.inr (Nat.le_refl _)) (.int .i64 ((N2 : Int) + 2))
  have g0 := hpF.c0
  have g1 := hpF.c1
  exact bodyPost_ret (v := .agg #[.int .i64 ((N : Int) + 2), .int .i64 ((N2 : Int) + 2)]) (by simp [results, Try.results27, go_sem, g0, g1]) rfl ⟨N2, ao7, c7, rfl, hbF, hdF⟩

set_option maxRecDepth 100000 in
set_option maxHeartbeats 1000000 in
theorem beginExt_true (D base : Nat) (l : List Int) (N : Nat) (ao : Option Addr) (cap : Nat) (oa : Option Addr) (m oc : Nat) (lo : List Int) (w : World) (h : Der w D base l N ao cap) (hbs : base ≤ w.heap.size) (hN : N + m ≤ 2097152)
    (hm : lo.length = m) (ro : ∀ w', Below base w w' → Rd w' oa lo) (no : oa = none → m = 0) :
    Calls Try.prog 27 #[.pointer (some ⟨D, 0, none⟩), .slice oa m oc, .bool true] w fun e w' => ∃ (N2 : Nat) (ao' : Option Addr) (cap' : Nat), e = .returned (.agg #[.int .i64 ((N : Int) + 2), .int .i64 ((N2 : Int) + 2)]) ∧ Bw base D (.slice ao N cap) w w' ∧
      Der w' D base (l ++ [48, 0] ++ lo ++ tlv 1 [255] ++ [4, 0]) (N2 + 2) ao' cap' := by
  have H : Hid (Der w D base l N ao cap) := h
  have RO : Hid (∀ w', Below base w w' → Rd w' oa lo) := ro
  have NO : Hid (oa = none → m = 0) := no
  have HM : Hid (lo.length = m) := hm
  have hb0 : Bw base D (.slice ao N cap) w (w.alloc (.cells #[.int .i64 0, .int .i64 0] 36)) := (Bw.refl _ _ _ _).alloc hbs _
  have hd0 : Der (w.alloc (.cells #[.int .i64 0, .int .i64 0] 36)) D base l N ao cap := h.below ((Below.refl _ _).alloc (Nat.le_refl _) _)
  have hp0 : Pair (w.alloc (.cells #[.int .i64 0, .int .i64 0] 36)) w.heap.size 0 0 := ⟨heap_alloc_new w _⟩
  clear ro no hm h
  go_enter Try.func27, Try.ntmps27
  go_wp2_with fail
  refine (beginF D base l N ao cap 48 _ hd0 (by omega) (by simp; omega)).mono ?_
  rintro e w1 ⟨rfl, hw1, ao1, c1, hd1, hf1⟩
  have hp1 := hp0.bw hd0 hw1
  have hb1 : Bw base D (.slice ao N cap) w w1 := hb0.trans (Fr.refl _ _) hw1
  have hF1 : Fr w (.slice ao N cap) (.slice ao1 (N + 2) c1) := (Fr.refl w _).trans (by simp) hf1
  have HF1 : Hid (Fr w (.slice ao N cap) (.slice ao1 (N + 2) c1)) := hF1
  clear hf1 hF1
  have hsd := hp1.off hd1
  have cS := hp1.c0
  have fS := hp1.fz 0
  have hd2 : Der (w1.setCell ⟨w.heap.size, 0, none⟩ (.int .i64 ((N : Int) + 2))) D base (l ++ [48, 0]) (N + 2) ao1 c1 := hd1.other hsd.1 hsd.2 _
  have hp2 := hp1.set0 ((N : Int) + 2)
  have hb2 : Bw base D (.slice ao N cap) w (w1.setCell ⟨w.heap.size, 0, none⟩ (.int .i64 ((N : Int) + 2))) := hb1.setCell hbs (.inr (Nat.le_refl _)) _
  have cD := hd2.cell
  have hz2 := hb2.bel.size
  obtain ⟨hSD, _⟩ := hsd
  clear hd0 hp0 hb0 hw1 hp1 hd1 hb1
  go_wp2_with (first
    | (at_builtin; refine wpList_appendedF _ rfl (.tmp 13) (.tmp 14) 39 22 rfl 5 base _ _ (N + 2) m (N + 2 + m) rfl (U (l ++ [48, 0])) (U lo) rfl rfl (fun ty => app_rdF Try.underlying39 Try.underlying22 hd2.own (RO.out _ hb2.bel) HM.out NO.out (by omega) (by omega)) ?_; intro ao3 c3 w3 hown3 hg3 hfr3; have FR3 : Hid (Fr (w1.setCell ⟨w.heap.size, 0, none⟩ (.int .i64 ((N : Int) + 2))) (.slice ao1 (N + 2) c1) (.slice ao3 (N + 2 + m) c3)) := hfr3; clear hfr3; have hbx : w3.heap[D]? = some (.cells #[.slice ao1 (N + 2) c1] 39 (0, 0)) := hd2.kept (Below.refl _ _) hg3; have hcx : w3.cell? ⟨D, 0, none⟩ = some (.slice ao1 (N + 2) c1) := cell_of_row _ _ 0 _ 39 (0, 0) hbx; have hfx : w3.frozen? ⟨D, 0, none⟩ = false := frozen_of_row _ _ 0 _ 39 hbx; have hp3 := hp2.grown hd2 hg3; have hb3 : Bw base D (.slice ao N cap) w w3 := hb2.trans HF1.out ((Bw.refl _ _ _ _).grown hd2.own hg3 (by omega)); have HF3 : Hid (Fr w (.slice ao N cap) (.slice ao3 (N + 2 + m) c3)) := HF1.out.trans hz2 FR3.out)
    )
  obtain ⟨W4, hW4, N2, hN2, hd4, hp4, hb4, hF4⟩ : ∃ W4, w3.setCell ⟨D, 0, none⟩ (.slice ao3 (N + 2 + m) c3) = W4 ∧ ∃ N2, Hid (N2 = N + 2 + m) ∧ Der W4 D base (l ++ [48, 0] ++ lo) N2 ao3 c3 ∧ Pair W4 w.heap.size ((N : Int) + 2) 0 ∧ Bw base D (.slice ao N cap) w W4 ∧ Fr w (.slice ao N cap) (.slice ao3 N2 c3) :=
    ⟨_, rfl, _, rfl, Der.stored hbx hown3 (by have := H.out.len; have := HM.out; simp; omega) H.out.lo, hp3.setD hSD _, hb3.setD H.out.lo _, HF3.out⟩
  have hQ1 : ((W4.alloc (.cells #[.int .u8 255] 5)).alloc (.cells #[.slice (some ⟨W4.heap.size, 0, none⟩) 1 1] 22)).heap[W4.heap.size]? = some (.cells #[.int .u8 255] 5 (0, 0)) := by
    rw [Below.heap_alloc _ _ _ (by simp)]
    exact heap_alloc_new W4 _
  have hP1 : ((W4.alloc (.cells #[.int .u8 255] 5)).alloc (.cells #[.slice (some ⟨W4.heap.size, 0, none⟩) 1 1] 22)).heap[W4.heap.size + 1]? = some (.cells #[.slice (some ⟨W4.heap.size, 0, none⟩) 1 1] 22 (0, 0)) := by
    have := heap_alloc_new (W4.alloc (.cells #[.int .u8 255] 5)) (.cells #[.slice (some ⟨W4.heap.size, 0, none⟩) 1 1] 22)
    simpa using this
  have hsW : w3.heap.size = W4.heap.size := by rw [← hW4]; simp
  have hd5 : Der ((W4.alloc (.cells #[.int .u8 255] 5)).alloc (.cells #[.slice (some ⟨W4.heap.size, 0, none⟩) 1 1] 22)) D base (l ++ [48, 0] ++ lo) N2 ao3 c3 := hd4.below (((Below.refl _ _).alloc (Nat.le_refl _) _).alloc (by simp) _)
  have hp5 := (hp4.alloc (.cells #[.int .u8 255] 5)).alloc (.cells #[.slice (some ⟨W4.heap.size, 0, none⟩) 1 1] 22)
  have hz4 := hb4.bel.size
  have hb5 : Bw base D (.slice ao N cap) w ((W4.alloc (.cells #[.int .u8 255] 5)).alloc (.cells #[.slice (some ⟨W4.heap.size, 0, none⟩) 1 1] 22)) := (hb4.alloc hbs _).alloc hbs _
  have hneQ : some W4.heap.size ≠ (Value.slice ao3 N2 c3).ownBlock := fun e => by have := (hd4.own.lt _ e.symm).2; omega
  have hN2b : N2 ≤ 4194303 := by rw [hN2.out]; omega
  rw [hW4]
  try rw [hsW]
  clear hW4 hbx hcx hfx hown3 hg3 hp3 hb3 hd2 hp2 hb2 cD hz2 cS fS
  refine (add1 D base _ N2 ao3 c3 1 (W4.heap.size + 1) W4.heap.size 255 _ hd5 (by simp; omega) (by omega) hP1 hQ1 hneQ).mono ?_
  rintro e w6 ⟨rfl, hw6, N6, ao6, c6, hd6, hf6⟩
  have hp6 := hp5.bw hd5 hw6
  have hb6 : Bw base D (.slice ao N cap) w w6 := hb5.trans hF4 hw6
  have hF6 : Fr w (.slice ao N cap) (.slice ao6 N6 c6) := hF4.trans (by have := hb5.bel.size; simpa using this) hf6
  have HF6 : Hid (Fr w (.slice ao N cap) (.slice ao6 N6 c6)) := hF6
  have hz6 := hb6.bel.size
  clear hf6 hF6
  have hN6b : N6 ≤ 8388608 := by
    have e := hd6.len
    rw [List.length_append, hd4.len, tlv_length] at e
    have := lenT_length 1
    simp at e
    omega
  clear hd5 hp5 hb5 hP1 hQ1 hneQ hw6 hd4 hp4 hb4
  go_wp2_with fail
  refine (beginF D base _ N6 ao6 c6 4 w6 hd6 (by omega) (by omega)).mono ?_
  rintro e w7 ⟨rfl, hw7, ao7, c7, hd7, _⟩
  have hp7 := hp6.bw hd6 hw7
  have hb7 : Bw base D (.slice ao N cap) w w7 := hb6.trans HF6.out hw7
  have c70 := hp7.c0
  have c71 := hp7.c1
  have f70 := hp7.fz 0
  have f71 := hp7.fz 1
  have HP7 : Hid (Pair w7 w.heap.size ((N : Int) + 2) 0) := hp7
  have HD7 : Hid (Der w7 D base (l ++ [48, 0] ++ lo ++ tlv 1 [255] ++ [4, 0]) (N6 + 2) ao7 c7) := hd7
  have HB7 : Hid (Bw base D (.slice ao N cap) w w7) := hb7
  clear hp7 hd7 hb7
  go_wp2
  have hoff := HP7.out.off HD7.out
  have hpF := ((HP7.out.set1 ((N6 : Int) + 2)).set0 ((N : Int) + 2)).set1 ((N6 : Int) + 2)
  have hdF := ((HD7.out.other (j := 1) hoff.1 hoff.2 (.int .i64 ((N6 : Int) + 2))).other (j := 0) hoff.1 hoff.2 (.int .i64 ((N : Int) + 2))).other (j := 1) hoff.1 hoff.2 (.int .i64 ((N6 : Int) + 2))
  have hbF := ((HB7.out.setCell (g := w.heap.size) (j := 1) hbs (.inr (Nat.le_refl _)) (.int .i64 ((N6 : Int) + 2))).setCell (g := w.heap.size) (j := 0) hbs (.inr (Nat.le_refl _)) (.int .i64 ((N : Int) + 2))).setCell (g := w.heap.size) (j := 1) hbs (.inr (Nat.le_refl _)) (.int .i64 ((N6 : Int) + 2))
  have g0 := hpF.c0
  have g1 := hpF.c1
  exact bodyPost_ret (v := .agg #[.int .i64 ((N : Int) + 2), .int .i64 ((N6 : Int) + 2)]) (by simp [results, Try.results27, go_sem, g0, g1]) rfl ⟨N6, ao7, c7, rfl, hbF, hdF⟩

end Go.Proofs.Qxb6601770a
