import Derived.Test.Qxb6601770aT
namespace Go.Proofs.Qxb6601770a
open Go.RowKit
set_option linter.unusedVariables false

theorem zzEndF (x : Int) (base : Nat) (l : List Int) (N : Nat) (ao : Option Addr) (cap s : Nat) (w : World) (hx : x = s) (hown : w.ownsRow base 5 1 (.slice ao N cap) N (U l)) (hl : l.length = N) (hbs : base ≤ w.heap.size) (hN : N ≤ 8388608) (h1 : 1 ≤ s) (h2 : s ≤ N) :
    Calls Try.prog 11 #[.slice ao N cap, .int .i64 x] w fun e w' => ∃ ao' cap' N', Hid (N' = (endL l s).length) ∧ e = .returned (.slice ao' N' cap') ∧ w'.ownsRow base 5 1 (.slice ao' N' cap') N' (U (endL l s)) ∧ Below base w w' ∧
      ∀ b, b < w.heap.size → some b ≠ (Value.slice ao N cap).ownBlock → w'.heap[b]? = w.heap[b]? := by
  subst hx
  have hd := der_new hown hl hbs
  have hb0 : Below base w (w.alloc (.cells #[.slice ao N cap] 39)) := (Below.refl _ _).alloc hbs _
  have HO : Hid (w.ownsRow base 5 1 (.slice ao N cap) N (U l)) := hown
  have HL : Hid (l.length = N) := hl
  clear hown hl
  go_enter Try.func11, Try.ntmps11
  go_wp2_with (go_at_call 25; refine (endF_any _ base l N ao cap s _ hd (by simp; omega) hN h1 h2).mono ?_; rintro e w1 ⟨rfl, hw1, N', ao', cap', hd1, _⟩; have hc1 := hd1.cell)
  go_ret
  refine ⟨ao', cap', N', hd1.len.symm, rfl, hd1.own, hb0.trans hw1.bel, fun b hb hne => ?_⟩
  rw [hw1.keep b (by simp; omega) (by omega) hne]
  exact Below.heap_alloc _ _ _ hb

theorem bytes23 (a0 : Option Addr) (n0 c0 : Nat) (a1 : Option Addr) (n1 c1 : Nat) (cr : Bool) (a3 : Option Addr) (n3 c3 : Nat) (w : World) (h : n0 + n1 + n3 ≤ 1048576) :
   Calls Try.prog 23 #[.slice a0 n0 c0, .slice a1 n1 c1, .bool cr, .slice a3 n3 c3] w fun e w' => e = .returned (.bool true) ∧ w' = w := by
  go_enter Try.func23, Try.ntmps23
  go_wp2
  go_ret
  exact ⟨rfl, rfl⟩

theorem bytes23_no (a0 : Option Addr) (n0 c0 : Nat) (a1 : Option Addr) (n1 c1 : Nat) (cr : Bool) (a3 : Option Addr) (n3 c3 : Nat) (w : World) (h0 : n0 ≤ maxLen) (h1 : n1 ≤ maxLen) (h3 : n3 ≤ maxLen) (h : 1048576 < n0 + n1 + n3) :
   Calls Try.prog 23 #[.slice a0 n0 c0, .slice a1 n1 c1, .bool cr, .slice a3 n3 c3] w fun e w' => e = .returned (.bool false) ∧ w' = w := by
  unfold maxLen at h0 h1 h3
  by_cases k0 : 1048576 < n0
  · go_enter Try.func23, Try.ntmps23
    go_wp2
    go_ret
    exact ⟨rfl, rfl⟩
  · by_cases k1 : 1048576 < n1
    · go_enter Try.func23, Try.ntmps23
      go_wp2
      go_ret
      exact ⟨rfl, rfl⟩
    · by_cases k2 : 1048576 < n0 + n1
      · go_enter Try.func23, Try.ntmps23
        go_wp2
        go_ret
        exact ⟨rfl, rfl⟩
      · by_cases k3 : 1048576 < n3
        · go_enter Try.func23, Try.ntmps23
          go_wp2
          go_ret
          exact ⟨rfl, rfl⟩
        · go_enter Try.func23, Try.ntmps23
          go_wp2
          go_ret
          exact ⟨rfl, rfl⟩

theorem bytes_false (l lo lv : List Int) (n0 M : Nat) (hl : l.length = n0) (hM : (l ++ [48, 0] ++ lo ++ [4, 0]).length = M + 2) : endL (endL (l ++ [48, 0] ++ lo ++ [4, 0] ++ lv) (M + 2)) (n0 + 2) = l ++ tlv 48 (lo ++ tlv 4 lv) := by
  rw [endL_tlv (l ++ [48, 0] ++ lo) 4 lv M (by simp at hM ⊢; omega)]
  have e : l ++ [48, 0] ++ lo ++ tlv 4 lv = l ++ [48, 0] ++ (lo ++ tlv 4 lv) := by simp
  rw [e, endL_tlv l 48 _ n0 hl]

set_option maxRecDepth 100000 in
set_option maxHeartbeats 2000000 in
theorem law8_false (a0 : Option Addr) (n0 k0 : Nat) (a1 : Option Addr) (m k1 : Nat) (a3 : Option Addr) (k k3 : Nat) (l lo lv : List Int) (w : World) (h : n0 + m + k ≤ 1048576)
    (hl : l.length = n0) (hm : lo.length = m) (hk : lv.length = k) (hn0 : a0 = none → n0 = 0 ∧ k0 = 0) (hn1 : a1 = none → m = 0 ∧ k1 = 0) (hn3 : a3 = none → k = 0 ∧ k3 = 0) (r0 : Rd w a0 l) (r1 : Rd w a1 lo) (r3 : Rd w a3 lv) :
    Calls Try.prog 8 #[.slice a0 n0 k0, .slice a1 m k1, .bool false, .slice a3 k k3] w fun e w' => e = .returned (.bool true) ∧ Below w.heap.size w w' := by
  have N0 : Hid (a0 = none → n0 = 0 ∧ k0 = 0) := hn0
  have N1 : Hid (a1 = none → m = 0 ∧ k1 = 0) := hn1
  have NV : Hid (a3 = none → k = 0 ∧ k3 = 0) := hn3
  have HL : Hid (l.length = n0) := hl
  have HM : Hid (lo.length = m) := hm
  have HK : Hid (lv.length = k) := hk
  clear hn0 hn1 hn3 hl hm hk
  go_enter Try.func8, Try.ntmps8
  go_wp2_with (go_at_call 23; refine (bytes23 _ _ _ _ _ _ _ _ _ _ _ h).mono ?_; rintro e w' ⟨rfl, rfl⟩)
  refine (clone_any a0 n0 k0 l _ HL.out (by omega) N0.out r0).mono ?_
  rintro e w1 ⟨ao1, c1, rfl, hown1, hb1⟩
  go_wp2_with fail
  refine (clone_any a1 m k1 lo _ HM.out (by omega) N1.out (r1.below hb1)).mono ?_
  rintro e w2 ⟨ao2, c2, rfl, hown2, hb2⟩
  have hb12 := hb1.trans (hb2.mono hb1.size)
  go_wp2_with fail
  refine (clone_any a3 k k3 lv _ HK.out (by omega) NV.out (r3.below hb12)).mono ?_
  rintro e w3 ⟨ao3, c3, rfl, hown3, hb3⟩
  have hb13 : Below w'.heap.size w' w3 := hb12.trans (hb3.mono hb12.size)
  have rb : Rd w3 ao1 l := ((rd_of_owns hown1 HL.out).below hb2).below hb3
  have ro : Rd w3 ao2 lo := (rd_of_owns hown2 HM.out).below hb3
  have rv : Rd w3 ao3 lv := rd_of_owns hown3 HK.out
  have nb := owns_none hown1
  have no := owns_none hown2
  have nv := owns_none hown3
  have NB : Hid (ao1 = none → n0 = 0 ∧ c1 = 0) := nb
  have NO : Hid (ao2 = none → m = 0 ∧ c2 = 0) := no
  have NW : Hid (ao3 = none → k = 0 ∧ c3 = 0) := nv
  have HB13 : Hid (Below w'.heap.size w' w3) := hb13
  clear hown1 hown2 hown3 hb1 hb2 hb3 hb12 hb13 r0 r1 r3 nb no nv N0 N1 NV
  go_wp2_with fail
  refine (clone_any ao1 n0 c1 l w3 HL.out (by omega) NB.out rb).mono ?_
  rintro e w4 ⟨ao4, c4, rfl, hown4, hb4⟩
  go_wp2_with fail
  refine (zzBegin_false w3.heap.size l n0 ao4 c4 ao2 m c2 lo w4 hown4 HL.out hb4.size (by omega) HM.out (fun w' h => ro.below (hb4.trans h)) (fun h => (NO.out h).1)).mono ?_
  rintro e w5 ⟨N5, ao5, c5, rfl, hb5, hown5, hlen5⟩
  have hB5 : Below w3.heap.size w3 w5 := hb4.trans hb5
  have hz5 := hB5.size
  have hN5 : N5 ≤ 2097152 := by
    have e := hlen5.out
    have h1 := HL.out
    have h2 := HM.out
    have h3 := lenT_length 1
    simp at e
    omega
  have hB5a : Below w3.heap.size w3 (w5.alloc (.cells #[.int .i64 ((n0 : Int) + 2), .int .i64 ((N5 : Int) + 2)] 36)) := hB5.alloc hz5 _
  have hp5 : Pair (w5.alloc (.cells #[.int .i64 ((n0 : Int) + 2), .int .i64 ((N5 : Int) + 2)] 36)) w5.heap.size ((n0 : Int) + 2) ((N5 : Int) + 2) := ⟨heap_alloc_new w5 _⟩
  have hown5a := hown5.alloc (.cells #[.int .i64 ((n0 : Int) + 2), .int .i64 ((N5 : Int) + 2)] 36)
  clear hown4 hb4 hb5 hB5
  go_wp2_with (at_builtin; refine wpList_appended _ rfl (.tmp 51) (.tmp 52) 22 22 rfl 5 w3.heap.size _ _ (N5 + 2) k (N5 + 2 + k) rfl (U (l ++ [48, 0] ++ lo ++ [4, 0])) (U lv) rfl rfl (fun ty => app_rd Try.underlying22 Try.underlying22 hown5a (rv.below hB5a) HK.out (fun h => (NW.out h).1) (by omega) (by simp; omega)) ?_; intro ao6 c6 w6 hown6 hg6; have hp6 : Pair w6 w5.heap.size ((n0 : Int) + 2) ((N5 : Int) + 2) := ⟨(hg6.block _ hp5.lt (ne_own hown5a hp5.blk (by decide))).trans hp5.blk⟩; have c60 := hp6.c0; have c61 := hp6.c1; have hB6 : Below w3.heap.size w3 w6 := below_grown hB5a hown5a hg6 (Nat.le_refl _) (by simp; omega))
  rw [← U_append] at hown6
  have hl6 : (l ++ [48, 0] ++ lo ++ [4, 0] ++ lv).length = N5 + 2 + k := by rw [List.length_append, hlen5.out, HK.out]
  have hz6 := hB6.size
  have HP6 : Hid (Pair w6 w5.heap.size ((n0 : Int) + 2) ((N5 : Int) + 2)) := hp6
  have HO6 : Hid (w6.ownsRow w3.heap.size 5 1 (.slice ao6 (N5 + 2 + k) c6) (N5 + 2 + k) (U (l ++ [48, 0] ++ lo ++ [4, 0] ++ lv))) := hown6
  have HL6 : Hid ((l ++ [48, 0] ++ lo ++ [4, 0] ++ lv).length = N5 + 2 + k) := hl6
  clear hown5 hown5a hg6 hp5 hB5a hown6 hp6 hl6 c60
  refine (zzEndF _ w3.heap.size _ (N5 + 2 + k) ao6 c6 (N5 + 2) w6 (by omega) HO6.out HL6.out hz6 (by omega) (by omega) (by omega)).mono ?_
  rintro e w7 ⟨ao7, c7, N7, hN7, rfl, hown7, hb7, hkp⟩
  have hp7 : Pair w7 w5.heap.size ((n0 : Int) + 2) ((N5 : Int) + 2) := ⟨(hkp _ HP6.out.lt (ne_own HO6.out HP6.out.blk (by decide))).trans HP6.out.blk⟩
  have c70 := hp7.c0
  have hB7 : Below w3.heap.size w3 w7 := hB6.trans hb7
  have hz7 := hB7.size
  have hlt5 := lenT_length ((l ++ [48, 0] ++ lo ++ [4, 0] ++ lv).length - (N5 + 2))
  have hN7b : N5 + k + 2 ≤ N7 ∧ N7 ≤ 4194304 := by
    rw [hN7.out, endL_length _ _ (by omega) (by rw [HL6.out]; omega), HL6.out]
    rw [HL6.out] at hlt5
    omega
  have hge : n0 ≤ N5 := by
    have e := hlen5.out
    have h1 := HL.out
    simp at e
    omega
  clear hkp hp7 HP6 hb7 hlt5 c61
  go_wp2_with fail
  refine (zzEndF _ w3.heap.size _ N7 ao7 c7 (n0 + 2) w7 (by omega) hown7 hN7.out.symm hz7 (by omega) (by omega) (by omega)).mono ?_
  rintro e w8 ⟨ao8, c8, N8, hN8, rfl, hown8, hb8, _⟩
  have hB8 : Below w3.heap.size w3 w8 := hB7.trans hb8
  have eB := bytes_false l lo lv n0 N5 HL.out hlen5.out
  rw [eB] at hown8
  have hN8' : N8 = (l ++ tlv 48 (lo ++ tlv 4 lv)).length := by rw [hN8.out, eB]
  have HN8 : Hid (N8 = (l ++ tlv 48 (lo ++ tlv 4 lv)).length) := hN8'
  have rg : Rd w8 ao8 (l ++ tlv 48 (lo ++ tlv 4 lv)) := rd_of_owns hown8 hN8'.symm
  have rb8 := rb.below hB8
  have ro8 := ro.below hB8
  have rv8 := rv.below hB8
  have HB8 : Hid (Below w'.heap.size w' w8) := HB13.out.trans (hB8.mono HB13.out.size)
  clear hown7 hown8 hb8 eB hN8' hN7b hge HO6 HL6 hB6 hz6 hB7 hz7 hB8 hz5 hN8 hN7 c70 rb ro rv HB13
  go_wp2_with fail
  refine (clone_any ao2 m c2 lo w8 HM.out (by omega) NO.out ro8).mono ?_
  rintro e w9 ⟨ao9, c9, rfl, hown9, hb9⟩
  have hn9 := owns_none hown9
  have rI : Rd w9 ao9 lo := rd_of_owns hown9 HM.out
  have hnI := hn9
  have HMI : Hid (lo.length = m) := HM
  clear hown9
  go_wp2_with fail
  refine (zzTLV 4 ao3 k c3 lv w9 HK.out (by omega) (rv8.below hb9) (fun h => (NW.out h).1)).mono ?_
  rintro e wC ⟨aoC, cC, NC, hNC, rfl, hownC, hbC⟩
  have rC := rd_of_owns hownC hNC.out.symm
  have hnC := owns_none hownC
  have hNCb : NC ≤ k + 5 := by
    rw [hNC.out, tlv_length, HK.out]
    have := lenT_length k
    omega
  clear hownC
  go_wp2_with fail
  refine (cat2 ao9 aoC m NC c9 cC (lo) (tlv 4 lv) wC HMI.out hNC.out.symm (rI.below hbC) rC (fun h => (hnI h).1) (fun h => (hnC h).1) (by omega)).mono ?_
  rintro e wD ⟨aoD, cD, rfl, hownD, hbD⟩
  have hlD : (lo ++ tlv 4 lv).length = m + NC := by rw [List.length_append, HMI.out, hNC.out]
  have rD := rd_of_owns hownD hlD
  have hnD := owns_none hownD
  have hbCD := hbC.trans (hbD.mono hbC.size)
  have hb8D := (hb9).trans (hbCD.mono (hb9).size)
  have HLD : Hid ((lo ++ tlv 4 lv).length = m + NC) := hlD
  clear hownD hlD rC rI hbC hbD hbCD
  go_wp2_with fail
  refine (zzTLV 48 aoD (m + NC) cD (lo ++ tlv 4 lv) wD HLD.out (by omega) rD (fun h => (hnD h).1)).mono ?_
  rintro e wE ⟨aoE, cE, NE, hNE, rfl, hownE, hbE⟩
  have rE := rd_of_owns hownE hNE.out.symm
  have hnE := owns_none hownE
  have hb8E := hb8D.trans (hbE.mono hb8D.size)
  have hNEb : NE ≤ m + NC + 5 := by
    rw [hNE.out, tlv_length, HLD.out]
    have := lenT_length (m + NC)
    omega
  clear hownE hbE hb8D rD
  go_wp2_with fail
  refine (cat2 ao1 aoE n0 NE c1 cE l (tlv 48 (lo ++ tlv 4 lv)) wE HL.out hNE.out.symm (rb8.below hb8E) rE (fun h => (NB.out h).1) (fun h => (hnE h).1) (by omega)).mono ?_
  rintro e wF ⟨aoF, cF, rfl, hownF, hbF⟩
  have hb8F := hb8E.trans (hbF.mono hb8E.size)
  have hNe : n0 + NE = N8 := by rw [HN8.out, List.length_append, HL.out, hNE.out]
  rw [hNe] at hownF
  have HNE : Hid (n0 + NE = N8) := hNe
  have rF := rd_of_owns hownF HN8.out.symm
  clear hownF hNe
  go_wp2_with fail
  rw [HNE.out]
  refine (eq_same ao8 aoF N8 c8 cF (l ++ tlv 48 (lo ++ tlv 4 lv)) wF HN8.out.symm (by have := HNE.out; omega) (rg.below hb8F) rF).mono ?_
  rintro e wG ⟨rfl, kG, rfl⟩
  go_wp2
  go_ret
  exact ⟨rfl, below_drewN (HB8.out.trans (hb8F.mono HB8.out.size)) _⟩

theorem bytes_true (l lo lv : List Int) (n0 M : Nat) (hl : l.length = n0) (hM : (l ++ [48, 0] ++ lo ++ tlv 1 [255] ++ [4, 0]).length = M + 2) : endL (endL (l ++ [48, 0] ++ lo ++ tlv 1 [255] ++ [4, 0] ++ lv) (M + 2)) (n0 + 2) = l ++ tlv 48 (lo ++ tlv 1 [255] ++ tlv 4 lv) := by
  rw [endL_tlv (l ++ [48, 0] ++ lo ++ tlv 1 [255]) 4 lv M (by simp at hM ⊢; omega)]
  have e : l ++ [48, 0] ++ lo ++ tlv 1 [255] ++ tlv 4 lv = l ++ [48, 0] ++ (lo ++ tlv 1 [255] ++ tlv 4 lv) := by simp
  rw [e, endL_tlv l 48 _ n0 hl]

set_option maxRecDepth 100000 in
set_option maxHeartbeats 2000000 in
theorem law8_true (a0 : Option Addr) (n0 k0 : Nat) (a1 : Option Addr) (m k1 : Nat) (a3 : Option Addr) (k k3 : Nat) (l lo lv : List Int) (w : World) (h : n0 + m + k ≤ 1048576)
    (hl : l.length = n0) (hm : lo.length = m) (hk : lv.length = k) (hn0 : a0 = none → n0 = 0 ∧ k0 = 0) (hn1 : a1 = none → m = 0 ∧ k1 = 0) (hn3 : a3 = none → k = 0 ∧ k3 = 0) (r0 : Rd w a0 l) (r1 : Rd w a1 lo) (r3 : Rd w a3 lv) :
    Calls Try.prog 8 #[.slice a0 n0 k0, .slice a1 m k1, .bool true, .slice a3 k k3] w fun e w' => e = .returned (.bool true) ∧ Below w.heap.size w w' := by
  have N0 : Hid (a0 = none → n0 = 0 ∧ k0 = 0) := hn0
  have N1 : Hid (a1 = none → m = 0 ∧ k1 = 0) := hn1
  have NV : Hid (a3 = none → k = 0 ∧ k3 = 0) := hn3
  have HL : Hid (l.length = n0) := hl
  have HM : Hid (lo.length = m) := hm
  have HK : Hid (lv.length = k) := hk
  clear hn0 hn1 hn3 hl hm hk
  go_enter Try.func8, Try.ntmps8
  go_wp2_with (go_at_call 23; refine (bytes23 _ _ _ _ _ _ _ _ _ _ _ h).mono ?_; rintro e w' ⟨rfl, rfl⟩)
  refine (clone_any a0 n0 k0 l _ HL.out (by omega) N0.out r0).mono ?_
  rintro e w1 ⟨ao1, c1, rfl, hown1, hb1⟩
  go_wp2_with fail
  refine (clone_any a1 m k1 lo _ HM.out (by omega) N1.out (r1.below hb1)).mono ?_
  rintro e w2 ⟨ao2, c2, rfl, hown2, hb2⟩
  have hb12 := hb1.trans (hb2.mono hb1.size)
  go_wp2_with fail
  refine (clone_any a3 k k3 lv _ HK.out (by omega) NV.out (r3.below hb12)).mono ?_
  rintro e w3 ⟨ao3, c3, rfl, hown3, hb3⟩
  have hb13 : Below w'.heap.size w' w3 := hb12.trans (hb3.mono hb12.size)
  have rb : Rd w3 ao1 l := ((rd_of_owns hown1 HL.out).below hb2).below hb3
  have ro : Rd w3 ao2 lo := (rd_of_owns hown2 HM.out).below hb3
  have rv : Rd w3 ao3 lv := rd_of_owns hown3 HK.out
  have nb := owns_none hown1
  have no := owns_none hown2
  have nv := owns_none hown3
  have NB : Hid (ao1 = none → n0 = 0 ∧ c1 = 0) := nb
  have NO : Hid (ao2 = none → m = 0 ∧ c2 = 0) := no
  have NW : Hid (ao3 = none → k = 0 ∧ c3 = 0) := nv
  have HB13 : Hid (Below w'.heap.size w' w3) := hb13
  clear hown1 hown2 hown3 hb1 hb2 hb3 hb12 hb13 r0 r1 r3 nb no nv N0 N1 NV
  go_wp2_with fail
  refine (clone_any ao1 n0 c1 l w3 HL.out (by omega) NB.out rb).mono ?_
  rintro e w4 ⟨ao4, c4, rfl, hown4, hb4⟩
  go_wp2_with fail
  refine (zzBegin_true w3.heap.size l n0 ao4 c4 ao2 m c2 lo w4 hown4 HL.out hb4.size (by omega) HM.out (fun w' h => ro.below (hb4.trans h)) (fun h => (NO.out h).1)).mono ?_
  rintro e w5 ⟨N5, ao5, c5, rfl, hb5, hown5, hlen5⟩
  have hB5 : Below w3.heap.size w3 w5 := hb4.trans hb5
  have hz5 := hB5.size
  have hN5 : N5 ≤ 2097152 := by
    have e := hlen5.out
    have h1 := HL.out
    have h2 := HM.out
    have h3 := lenT_length 1
    simp [tlv_length] at e
    omega
  have hB5a : Below w3.heap.size w3 (w5.alloc (.cells #[.int .i64 ((n0 : Int) + 2), .int .i64 ((N5 : Int) + 2)] 36)) := hB5.alloc hz5 _
  have hp5 : Pair (w5.alloc (.cells #[.int .i64 ((n0 : Int) + 2), .int .i64 ((N5 : Int) + 2)] 36)) w5.heap.size ((n0 : Int) + 2) ((N5 : Int) + 2) := ⟨heap_alloc_new w5 _⟩
  have hown5a := hown5.alloc (.cells #[.int .i64 ((n0 : Int) + 2), .int .i64 ((N5 : Int) + 2)] 36)
  clear hown4 hb4 hb5 hB5
  go_wp2_with (at_builtin; refine wpList_appended _ rfl (.tmp 51) (.tmp 52) 22 22 rfl 5 w3.heap.size _ _ (N5 + 2) k (N5 + 2 + k) rfl (U (l ++ [48, 0] ++ lo ++ tlv 1 [255] ++ [4, 0])) (U lv) rfl rfl (fun ty => app_rd Try.underlying22 Try.underlying22 hown5a (rv.below hB5a) HK.out (fun h => (NW.out h).1) (by omega) (by simp; omega)) ?_; intro ao6 c6 w6 hown6 hg6; have hp6 : Pair w6 w5.heap.size ((n0 : Int) + 2) ((N5 : Int) + 2) := ⟨(hg6.block _ hp5.lt (ne_own hown5a hp5.blk (by decide))).trans hp5.blk⟩; have c60 := hp6.c0; have c61 := hp6.c1; have hB6 : Below w3.heap.size w3 w6 := below_grown hB5a hown5a hg6 (Nat.le_refl _) (by simp; omega))
  rw [← U_append] at hown6
  have hl6 : (l ++ [48, 0] ++ lo ++ tlv 1 [255] ++ [4, 0] ++ lv).length = N5 + 2 + k := by rw [List.length_append, hlen5.out, HK.out]
  have hz6 := hB6.size
  have HP6 : Hid (Pair w6 w5.heap.size ((n0 : Int) + 2) ((N5 : Int) + 2)) := hp6
  have HO6 : Hid (w6.ownsRow w3.heap.size 5 1 (.slice ao6 (N5 + 2 + k) c6) (N5 + 2 + k) (U (l ++ [48, 0] ++ lo ++ tlv 1 [255] ++ [4, 0] ++ lv))) := hown6
  have HL6 : Hid ((l ++ [48, 0] ++ lo ++ tlv 1 [255] ++ [4, 0] ++ lv).length = N5 + 2 + k) := hl6
  clear hown5 hown5a hg6 hp5 hB5a hown6 hp6 hl6 c60
  refine (zzEndF _ w3.heap.size _ (N5 + 2 + k) ao6 c6 (N5 + 2) w6 (by omega) HO6.out HL6.out hz6 (by omega) (by omega) (by omega)).mono ?_
  rintro e w7 ⟨ao7, c7, N7, hN7, rfl, hown7, hb7, hkp⟩
  have hp7 : Pair w7 w5.heap.size ((n0 : Int) + 2) ((N5 : Int) + 2) := ⟨(hkp _ HP6.out.lt (ne_own HO6.out HP6.out.blk (by decide))).trans HP6.out.blk⟩
  have c70 := hp7.c0
  have hB7 : Below w3.heap.size w3 w7 := hB6.trans hb7
  have hz7 := hB7.size
  have hlt5 := lenT_length ((l ++ [48, 0] ++ lo ++ tlv 1 [255] ++ [4, 0] ++ lv).length - (N5 + 2))
  have hN7b : N5 + k + 2 ≤ N7 ∧ N7 ≤ 4194304 := by
    rw [hN7.out, endL_length _ _ (by omega) (by rw [HL6.out]; omega), HL6.out]
    rw [HL6.out] at hlt5
    omega
  have hge : n0 ≤ N5 := by
    have e := hlen5.out
    have h1 := HL.out
    simp at e
    omega
  clear hkp hp7 HP6 hb7 hlt5 c61
  go_wp2_with fail
  refine (zzEndF _ w3.heap.size _ N7 ao7 c7 (n0 + 2) w7 (by omega) hown7 hN7.out.symm hz7 (by omega) (by omega) (by omega)).mono ?_
  rintro e w8 ⟨ao8, c8, N8, hN8, rfl, hown8, hb8, _⟩
  have hB8 : Below w3.heap.size w3 w8 := hB7.trans hb8
  have eB := bytes_true l lo lv n0 N5 HL.out hlen5.out
  rw [eB] at hown8
  have hN8' : N8 = (l ++ tlv 48 (lo ++ tlv 1 [255] ++ tlv 4 lv)).length := by rw [hN8.out, eB]
  have HN8 : Hid (N8 = (l ++ tlv 48 (lo ++ tlv 1 [255] ++ tlv 4 lv)).length) := hN8'
  have rg : Rd w8 ao8 (l ++ tlv 48 (lo ++ tlv 1 [255] ++ tlv 4 lv)) := rd_of_owns hown8 hN8'.symm
  have rb8 := rb.below hB8
  have ro8 := ro.below hB8
  have rv8 := rv.below hB8
  have HB8 : Hid (Below w'.heap.size w' w8) := HB13.out.trans (hB8.mono HB13.out.size)
  clear hown7 hown8 hb8 eB hN8' hN7b hge HO6 HL6 hB6 hz6 hB7 hz7 hB8 hz5 hN8 hN7 c70 rb ro rv HB13
  go_wp2_with fail
  refine (clone_any ao2 m c2 lo w8 HM.out (by omega) NO.out ro8).mono ?_
  rintro e w9 ⟨ao9, c9, rfl, hown9, hb9⟩
  have hn9 := owns_none hown9
  have r9 : Rd w9 ao9 lo := rd_of_owns hown9 HM.out
  have hbA : Below w9.heap.size w9 (w9.alloc (.cells #[.int .u8 255] 5)) := (Below.refl _ _).alloc (Nat.le_refl _) _
  have hoA : (w9.alloc (.cells #[.int .u8 255] 5)).ownsRow w9.heap.size 5 1 (.slice (some ⟨w9.heap.size, 0, none⟩) 1 1) 1 (U [255]) := owns_lit w9 [255] (by simp)
  go_wp2_with fail
  refine (zzTLV 1 _ 1 1 [255] _ rfl (by omega) (rd_of_owns hoA rfl) (fun h => by cases h)).mono ?_
  rintro e wA ⟨aoA, cA, NA, hNA, rfl, hownA, hbA2⟩
  have hbA' := hbA.trans (hbA2.mono hbA.size)
  have hnA := owns_none hownA
  have rA := rd_of_owns hownA hNA.out.symm
  have hNAb : NA ≤ 16 := by
    rw [hNA.out, tlv_length]
    have := lenT_length 1
    simp
    omega
  clear hoA hbA hbA2 hownA
  go_wp2_with fail
  refine (cat2 ao9 aoA m NA c9 cA lo (tlv 1 [255]) wA HM.out hNA.out.symm (r9.below hbA') rA (fun h => (hn9 h).1) (fun h => (hnA h).1) (by omega)).mono ?_
  rintro e wB ⟨aoB, cB, rfl, hownB, hbB⟩
  have hb9B := hb9.trans ((hbA'.trans (hbB.mono hbA'.size)).mono hb9.size)
  obtain ⟨mm, hmm⟩ : ∃ mm, mm = m + NA := ⟨_, rfl⟩
  have hmB : (lo ++ tlv 1 [255]).length = m + NA := by rw [List.length_append, HM.out, hNA.out]
  have rI : Rd wB aoB (lo ++ tlv 1 [255]) := rd_of_owns hownB hmB
  have hnI := owns_none hownB
  have HMI : Hid ((lo ++ tlv 1 [255]).length = m + NA) := hmB
  clear hownB hmB r9 hbA' hbB rA hown9 hmm
  go_wp2_with fail
  refine (zzTLV 4 ao3 k c3 lv wB HK.out (by omega) (rv8.below hb9B) (fun h => (NW.out h).1)).mono ?_
  rintro e wC ⟨aoC, cC, NC, hNC, rfl, hownC, hbC⟩
  have rC := rd_of_owns hownC hNC.out.symm
  have hnC := owns_none hownC
  have hNCb : NC ≤ k + 5 := by
    rw [hNC.out, tlv_length, HK.out]
    have := lenT_length k
    omega
  clear hownC
  go_wp2_with fail
  refine (cat2 aoB aoC (m + NA) NC cB cC (lo ++ tlv 1 [255]) (tlv 4 lv) wC HMI.out hNC.out.symm (rI.below hbC) rC (fun h => (hnI h).1) (fun h => (hnC h).1) (by omega)).mono ?_
  rintro e wD ⟨aoD, cD, rfl, hownD, hbD⟩
  have hlD : (lo ++ tlv 1 [255] ++ tlv 4 lv).length = (m + NA) + NC := by rw [List.length_append, HMI.out, hNC.out]
  have rD := rd_of_owns hownD hlD
  have hnD := owns_none hownD
  have hbCD := hbC.trans (hbD.mono hbC.size)
  have hb8D := (hb9B).trans (hbCD.mono (hb9B).size)
  have HLD : Hid ((lo ++ tlv 1 [255] ++ tlv 4 lv).length = (m + NA) + NC) := hlD
  clear hownD hlD rC rI hbC hbD hbCD
  go_wp2_with fail
  refine (zzTLV 48 aoD ((m + NA) + NC) cD (lo ++ tlv 1 [255] ++ tlv 4 lv) wD HLD.out (by omega) rD (fun h => (hnD h).1)).mono ?_
  rintro e wE ⟨aoE, cE, NE, hNE, rfl, hownE, hbE⟩
  have rE := rd_of_owns hownE hNE.out.symm
  have hnE := owns_none hownE
  have hb8E := hb8D.trans (hbE.mono hb8D.size)
  have hNEb : NE ≤ (m + NA) + NC + 5 := by
    rw [hNE.out, tlv_length, HLD.out]
    have := lenT_length ((m + NA) + NC)
    omega
  clear hownE hbE hb8D rD
  go_wp2_with fail
  refine (cat2 ao1 aoE n0 NE c1 cE l (tlv 48 (lo ++ tlv 1 [255] ++ tlv 4 lv)) wE HL.out hNE.out.symm (rb8.below hb8E) rE (fun h => (NB.out h).1) (fun h => (hnE h).1) (by omega)).mono ?_
  rintro e wF ⟨aoF, cF, rfl, hownF, hbF⟩
  have hb8F := hb8E.trans (hbF.mono hb8E.size)
  have hNe : n0 + NE = N8 := by rw [HN8.out, List.length_append, HL.out, hNE.out]
  rw [hNe] at hownF
  have HNE : Hid (n0 + NE = N8) := hNe
  have rF := rd_of_owns hownF HN8.out.symm
  clear hownF hNe
  go_wp2_with fail
  rw [HNE.out]
  refine (eq_same ao8 aoF N8 c8 cF (l ++ tlv 48 (lo ++ tlv 1 [255] ++ tlv 4 lv)) wF HN8.out.symm (by have := HNE.out; omega) (rg.below hb8F) rF).mono ?_
  rintro e wG ⟨rfl, kG, rfl⟩
  go_wp2
  go_ret
  exact ⟨rfl, below_drewN (HB8.out.trans (hb8F.mono HB8.out.size)) _⟩

theorem law8_no (a0 : Option Addr) (n0 k0 : Nat) (a1 : Option Addr) (m k1 : Nat) (cr : Bool) (a3 : Option Addr) (k k3 : Nat) (w : World) (h0 : n0 ≤ maxLen) (h1 : m ≤ maxLen) (h3 : k ≤ maxLen) (h : 1048576 < n0 + m + k) :
    Calls Try.prog 8 #[.slice a0 n0 k0, .slice a1 m k1, .bool cr, .slice a3 k k3] w fun e w' => e = .returned (.bool true) ∧ Below w.heap.size w w' := by
  go_enter Try.func8, Try.ntmps8
  go_wp2_with (go_at_call 23; refine (bytes23_no _ _ _ _ _ _ _ _ _ _ _ h0 h1 h3 h).mono ?_; rintro e w' ⟨rfl, rfl⟩)
  go_ret
  exact ⟨rfl, Below.refl _ _⟩

theorem law8_any (a0 : Option Addr) (n0 k0 : Nat) (a1 : Option Addr) (m k1 : Nat) (cr : Bool) (a3 : Option Addr) (k k3 : Nat) (l lo lv : List Int) (w : World) (m0 : n0 ≤ maxLen) (m1 : m ≤ maxLen) (m3 : k ≤ maxLen)
    (hl : l.length = n0) (hm : lo.length = m) (hk : lv.length = k) (hn0 : a0 = none → n0 = 0 ∧ k0 = 0) (hn1 : a1 = none → m = 0 ∧ k1 = 0) (hn3 : a3 = none → k = 0 ∧ k3 = 0) (r0 : Rd w a0 l) (r1 : Rd w a1 lo) (r3 : Rd w a3 lv) :
    Calls Try.prog 8 #[.slice a0 n0 k0, .slice a1 m k1, .bool cr, .slice a3 k k3] w fun e w' => e = .returned (.bool true) ∧ Below w.heap.size w w' := by
  by_cases h : n0 + m + k ≤ 1048576
  · cases cr
    · exact law8_false a0 n0 k0 a1 m k1 a3 k k3 l lo lv w h hl hm hk hn0 hn1 hn3 r0 r1 r3
    · exact law8_true a0 n0 k0 a1 m k1 a3 k k3 l lo lv w h hl hm hk hn0 hn1 hn3 r0 r1 r3
  · exact law8_no a0 n0 k0 a1 m k1 cr a3 k k3 w m0 m1 m3 (by omega)

end Go.Proofs.Qxb6601770a
