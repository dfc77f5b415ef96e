import Derived.Test.Qxb6601770aS
namespace Go.Proofs.Qxb6601770a
open Go.RowKit
set_option linter.unusedVariables false

set_option maxRecDepth 100000 in
set_option maxHeartbeats 1000000 in
theorem zzBegin_false (base : Nat) (l : List Int) (N : Nat) (ao : Option Addr) (cap : Nat) (oa : Option Addr) (m oc : Nat) (lo : List Int) (w : World) (hown : w.ownsRow base 5 1 (.slice ao N cap) N (U l)) (hl : l.length = N) (hbs : base ≤ w.heap.size) (hN : N + m ≤ 2097152)
    (hm : lo.length = m) (ro : ∀ w', Below base w w' → Rd w' oa lo) (no : oa = none → m = 0) :
    Calls Try.prog 24 #[.slice ao N cap, .slice oa m oc, .bool false] w fun e w' => ∃ (N2 : Nat) (ao' : Option Addr) (cap' : Nat), e = .returned (.tuple #[.slice ao' (N2 + 2) cap', .agg #[.int .i64 ((N : Int) + 2), .int .i64 ((N2 : Int) + 2)]]) ∧ Below base w w' ∧
      w'.ownsRow base 5 1 (.slice ao' (N2 + 2) cap') (N2 + 2) (U (l ++ [48, 0] ++ lo ++ [4, 0])) ∧ Hid ((l ++ [48, 0] ++ lo ++ [4, 0]).length = N2 + 2) := by
  have hb0 : Below base w ((w.alloc (.cells #[.int .i64 0, .int .i64 0] 36)).alloc (.cells #[.slice ao N cap] 39)) := ((Below.refl _ _).alloc hbs _).alloc (by simp; omega) _
  have hd0 : Der ((w.alloc (.cells #[.int .i64 0, .int .i64 0] 36)).alloc (.cells #[.slice ao N cap] 39)) (w.heap.size + 1) base l N ao cap := by
    have := der_new (hown.alloc (.cells #[.int .i64 0, .int .i64 0] 36)) hl (by simp; omega)
    simpa using this
  have hp0 : Pair ((w.alloc (.cells #[.int .i64 0, .int .i64 0] 36)).alloc (.cells #[.slice ao N cap] 39)) w.heap.size 0 0 := Pair.alloc ⟨heap_alloc_new w _⟩ _
  have ro0 : ∀ w', Below base ((w.alloc (.cells #[.int .i64 0, .int .i64 0] 36)).alloc (.cells #[.slice ao N cap] 39)) w' → Rd w' oa lo := fun w' h => ro w' (hb0.trans h)
  have RO : Hid (∀ w', Below base ((w.alloc (.cells #[.int .i64 0, .int .i64 0] 36)).alloc (.cells #[.slice ao N cap] 39)) w' → Rd w' oa lo) := ro0
  have NO : Hid (oa = none → m = 0) := no
  have HM : Hid (lo.length = m) := hm
  clear ro no hm hown hl ro0
  go_enter Try.func24, Try.ntmps24
  go_wp2_with fail
  refine (beginExt_false (w.heap.size + 1) base l N ao cap oa m oc lo _ hd0 (by simp; omega) hN HM.out RO.out NO.out).mono ?_
  rintro e w1 ⟨N2, ao1, c1, rfl, hw1, hd1⟩
  have hp1 := hp0.bw hd0 hw1
  have cD := hd1.cell
  have cR0 := hp1.c0
  have cR1 := hp1.c1
  have fR0 := hp1.fz 0
  have fR1 := hp1.fz 1
  have hltR := hp1.lt
  have hltD := hd1.lt
  have hb1 : Below base w w1 := hb0.trans hw1.bel
  have HP1 : Hid (Pair w1 w.heap.size 0 0) := hp1
  have HD1 : Hid (Der w1 (w.heap.size + 1) base (l ++ [48, 0] ++ lo ++ [4, 0]) (N2 + 2) ao1 c1) := hd1
  have HB1 : Hid (Below base w w1) := hb1
  clear hp1 hd1 hb1 hw1 hp0 hd0 hb0 RO
  go_wp2
  go_region
  go_wp2
  have hoff := HP1.out.off HD1.out
  have hpF : Pair (((w1.setCell ⟨w.heap.size, 0, none⟩ (.int .i64 ((N : Int) + 2))).setCell ⟨w.heap.size, 1, none⟩ (.int .i64 ((N2 : Int) + 2))).alloc (.cells #[.int .i64 ((N : Int) + 2), .int .i64 ((N2 : Int) + 2)] 36)) w.heap.size ((N : Int) + 2) ((N2 : Int) + 2) := ((HP1.out.set0 _).set1 _).alloc _
  have hdF := (HD1.out.other (j := 0) hoff.1 hoff.2 (.int .i64 ((N : Int) + 2))).other (j := 1) hoff.1 hoff.2 (.int .i64 ((N2 : Int) + 2))
  have hbF : Below base w ((((w1.setCell ⟨w.heap.size, 0, none⟩ (.int .i64 ((N : Int) + 2))).setCell ⟨w.heap.size, 1, none⟩ (.int .i64 ((N2 : Int) + 2))).alloc (.cells #[.int .i64 ((N : Int) + 2), .int .i64 ((N2 : Int) + 2)] 36)).drew) := (((HB1.out.setCell (p := ⟨w.heap.size, 0, none⟩) hbs _).setCell (p := ⟨w.heap.size, 1, none⟩) hbs _).alloc (by have := HB1.out.size; simp; omega) _).drew
  have g0 := hpF.c0
  have g1 := hpF.c1
  exact bodyPost_ret (v := .tuple #[.slice ao1 (N2 + 2) c1, .agg #[.int .i64 ((N : Int) + 2), .int .i64 ((N2 : Int) + 2)]]) (by simp [results, Try.results24, go_sem, g0, g1]) rfl ⟨N2, ao1, c1, rfl, hbF, (hdF.own.alloc _).drew, HD1.out.len⟩

set_option maxRecDepth 100000 in
set_option maxHeartbeats 1000000 in
theorem zzBegin_true (base : Nat) (l : List Int) (N : Nat) (ao : Option Addr) (cap : Nat) (oa : Option Addr) (m oc : Nat) (lo : List Int) (w : World) (hown : w.ownsRow base 5 1 (.slice ao N cap) N (U l)) (hl : l.length = N) (hbs : base ≤ w.heap.size) (hN : N + m ≤ 2097152)
    (hm : lo.length = m) (ro : ∀ w', Below base w w' → Rd w' oa lo) (no : oa = none → m = 0) :
    Calls Try.prog 24 #[.slice ao N cap, .slice oa m oc, .bool true] w fun e w' => ∃ (N2 : Nat) (ao' : Option Addr) (cap' : Nat), e = .returned (.tuple #[.slice ao' (N2 + 2) cap', .agg #[.int .i64 ((N : Int) + 2), .int .i64 ((N2 : Int) + 2)]]) ∧ Below base w w' ∧
      w'.ownsRow base 5 1 (.slice ao' (N2 + 2) cap') (N2 + 2) (U (l ++ [48, 0] ++ lo ++ tlv 1 [255] ++ [4, 0])) ∧ Hid ((l ++ [48, 0] ++ lo ++ tlv 1 [255] ++ [4, 0]).length = N2 + 2) := by
  have hb0 : Below base w ((w.alloc (.cells #[.int .i64 0, .int .i64 0] 36)).alloc (.cells #[.slice ao N cap] 39)) := ((Below.refl _ _).alloc hbs _).alloc (by simp; omega) _
  have hd0 : Der ((w.alloc (.cells #[.int .i64 0, .int .i64 0] 36)).alloc (.cells #[.slice ao N cap] 39)) (w.heap.size + 1) base l N ao cap := by
    have := der_new (hown.alloc (.cells #[.int .i64 0, .int .i64 0] 36)) hl (by simp; omega)
    simpa using this
  have hp0 : Pair ((w.alloc (.cells #[.int .i64 0, .int .i64 0] 36)).alloc (.cells #[.slice ao N cap] 39)) w.heap.size 0 0 := Pair.alloc ⟨heap_alloc_new w _⟩ _
  have ro0 : ∀ w', Below base ((w.alloc (.cells #[.int .i64 0, .int .i64 0] 36)).alloc (.cells #[.slice ao N cap] 39)) w' → Rd w' oa lo := fun w' h => ro w' (hb0.trans h)
  have RO : Hid (∀ w', Below base ((w.alloc (.cells #[.int .i64 0, .int .i64 0] 36)).alloc (.cells #[.slice ao N cap] 39)) w' → Rd w' oa lo) := ro0
  have NO : Hid (oa = none → m = 0) := no
  have HM : Hid (lo.length = m) := hm
  clear ro no hm hown hl ro0
  go_enter Try.func24, Try.ntmps24
  go_wp2_with fail
  refine (beginExt_true (w.heap.size + 1) base l N ao cap oa m oc lo _ hd0 (by simp; omega) hN HM.out RO.out NO.out).mono ?_
  rintro e w1 ⟨N2, ao1, c1, rfl, hw1, hd1⟩
  have hp1 := hp0.bw hd0 hw1
  have cD := hd1.cell
  have cR0 := hp1.c0
  have cR1 := hp1.c1
  have fR0 := hp1.fz 0
  have fR1 := hp1.fz 1
  have hltR := hp1.lt
  have hltD := hd1.lt
  have hb1 : Below base w w1 := hb0.trans hw1.bel
  have HP1 : Hid (Pair w1 w.heap.size 0 0) := hp1
  have HD1 : Hid (Der w1 (w.heap.size + 1) base (l ++ [48, 0] ++ lo ++ tlv 1 [255] ++ [4, 0]) (N2 + 2) ao1 c1) := hd1
  have HB1 : Hid (Below base w w1) := hb1
  clear hp1 hd1 hb1 hw1 hp0 hd0 hb0 RO
  go_wp2
  go_region
  go_wp2
  have hoff := HP1.out.off HD1.out
  have hpF : Pair (((w1.setCell ⟨w.heap.size, 0, none⟩ (.int .i64 ((N : Int) + 2))).setCell ⟨w.heap.size, 1, none⟩ (.int .i64 ((N2 : Int) + 2))).alloc (.cells #[.int .i64 ((N : Int) + 2), .int .i64 ((N2 : Int) + 2)] 36)) w.heap.size ((N : Int) + 2) ((N2 : Int) + 2) := ((HP1.out.set0 _).set1 _).alloc _
  have hdF := (HD1.out.other (j := 0) hoff.1 hoff.2 (.int .i64 ((N : Int) + 2))).other (j := 1) hoff.1 hoff.2 (.int .i64 ((N2 : Int) + 2))
  have hbF : Below base w ((((w1.setCell ⟨w.heap.size, 0, none⟩ (.int .i64 ((N : Int) + 2))).setCell ⟨w.heap.size, 1, none⟩ (.int .i64 ((N2 : Int) + 2))).alloc (.cells #[.int .i64 ((N : Int) + 2), .int .i64 ((N2 : Int) + 2)] 36)).drew) := (((HB1.out.setCell (p := ⟨w.heap.size, 0, none⟩) hbs _).setCell (p := ⟨w.heap.size, 1, none⟩) hbs _).alloc (by have := HB1.out.size; simp; omega) _).drew
  have g0 := hpF.c0
  have g1 := hpF.c1
  exact bodyPost_ret (v := .tuple #[.slice ao1 (N2 + 2) c1, .agg #[.int .i64 ((N : Int) + 2), .int .i64 ((N2 : Int) + 2)]]) (by simp [results, Try.results24, go_sem, g0, g1]) rfl ⟨N2, ao1, c1, rfl, hbF, (hdF.own.alloc _).drew, HD1.out.len⟩

end Go.Proofs.Qxb6601770a
