import Derived.Test.Qxb6601770aH
namespace Go.Proofs.Qxb6601770a
open Go.RowKit
set_option linter.unusedVariables false

theorem read_1 (b off i L c : Nat) (x : Int) (w : World) (hi : i < L) (hL : L ≤ 16777216) (h0 : w.cell? ⟨b, off + i, none⟩ = some (.int .u8 x)) (x0 : 0 ≤ x) (x1 : x < 128) :
    Calls Try.prog 16 #[.slice (some ⟨b, off, none⟩) L c, .int .i64 (i : Int)] w fun e w' => e = .returned (.tuple #[.int .i64 x, .int .i64 ((i : Int) + 1), .bool true]) ∧ w' = w := by
  go_enter Try.func16, Try.ntmps16
  go_wp2
  go_ret3
  exact ⟨rfl, rfl⟩

set_option maxHeartbeats 400000 in
theorem read_2 (b off i L c : Nat) (x : Int) (w : World) (hi : i + 2 ≤ L) (hL : L ≤ 16777216) (h0 : w.cell? ⟨b, off + i, none⟩ = some (.int .u8 129)) (h1 : w.cell? ⟨b, off + (i + 1), none⟩ = some (.int .u8 x)) (x0 : 128 ≤ x) (x1 : x < 256) :
    Calls Try.prog 16 #[.slice (some ⟨b, off, none⟩) L c, .int .i64 (i : Int)] w fun e w' => e = .returned (.tuple #[.int .i64 x, .int .i64 ((i : Int) + 1 + 1), .bool true]) ∧ w' = w := by
  go_enter Try.func16, Try.ntmps16
  go_wp2
  go_loopg [9, 10] 1 (fun r v j wr => ((r = 1 ∧ v = .int .i64 0 ∧ j = .int .i64 0) ∨ (r = 0 ∧ v = .int .i64 x ∧ j = .int .i64 1)) ∧ wr = w)
  case atStart => exact ⟨.inl ⟨rfl, rfl, rfl⟩, rfl⟩
  case round =>
    obtain ⟨hcase, rfl⟩ := hrel
    rcases hcase with ⟨rfl, rfl, rfl⟩ | ⟨rfl, rfl, rfl⟩
    · go_wp2
      go_roundg 0
      case measure => omega
      case rel => exact ⟨.inr ⟨rfl, by go_num, rfl⟩, rfl⟩
    · go_wp2
      go_ret3
      exact ⟨rfl, rfl⟩

set_option maxHeartbeats 400000 in
theorem read_3 (b off i L c : Nat) (x y : Int) (w : World) (hi : i + 3 ≤ L) (hL : L ≤ 16777216) (h0 : w.cell? ⟨b, off + i, none⟩ = some (.int .u8 130)) (h1 : w.cell? ⟨b, off + (i + 1), none⟩ = some (.int .u8 x)) (h2 : w.cell? ⟨b, off + (i + 1 + 1), none⟩ = some (.int .u8 y)) (x0 : 1 ≤ x) (x1 : x < 256) (y0 : 0 ≤ y) (y1 : y < 256) :
    Calls Try.prog 16 #[.slice (some ⟨b, off, none⟩) L c, .int .i64 (i : Int)] w fun e w' => e = .returned (.tuple #[.int .i64 (x * 256 + y), .int .i64 ((i : Int) + 1 + 2), .bool true]) ∧ w' = w := by
  go_enter Try.func16, Try.ntmps16
  go_wp2
  go_loopg [9, 10] 2 (fun r v j wr => ((r = 2 ∧ v = .int .i64 0 ∧ j = .int .i64 0) ∨ (r = 1 ∧ v = .int .i64 x ∧ j = .int .i64 1) ∨ (r = 0 ∧ v = .int .i64 (x * 256 + y) ∧ j = .int .i64 2)) ∧ wr = w)
  case atStart => exact ⟨.inl ⟨rfl, rfl, rfl⟩, rfl⟩
  case round =>
    obtain ⟨hcase, rfl⟩ := hrel
    rcases hcase with ⟨rfl, rfl, rfl⟩ | ⟨rfl, rfl, rfl⟩ | ⟨rfl, rfl, rfl⟩
    · go_wp2
      go_roundg 1
      case measure => omega
      case rel => exact ⟨.inr (.inl ⟨rfl, by go_num, rfl⟩), rfl⟩
    · go_wp2
      go_roundg 0
      case measure => omega
      case rel => exact ⟨.inr (.inr ⟨rfl, by go_num, rfl⟩), rfl⟩
    · go_wp2
      go_ret3
      exact ⟨rfl, rfl⟩

set_option maxHeartbeats 400000 in
theorem read_4 (b off i L c : Nat) (x y z : Int) (w : World) (hi : i + 4 ≤ L) (hL : L ≤ 16777216) (h0 : w.cell? ⟨b, off + i, none⟩ = some (.int .u8 131)) (h1 : w.cell? ⟨b, off + (i + 1), none⟩ = some (.int .u8 x)) (h2 : w.cell? ⟨b, off + (i + 1 + 1), none⟩ = some (.int .u8 y)) (h3 : w.cell? ⟨b, off + (i + 1 + 2), none⟩ = some (.int .u8 z)) (x0 : 1 ≤ x) (x1 : x < 256) (y0 : 0 ≤ y) (y1 : y < 256) (z0 : 0 ≤ z) (z1 : z < 256) :
    Calls Try.prog 16 #[.slice (some ⟨b, off, none⟩) L c, .int .i64 (i : Int)] w fun e w' => e = .returned (.tuple #[.int .i64 ((x * 256 + y) * 256 + z), .int .i64 ((i : Int) + 1 + 3), .bool true]) ∧ w' = w := by
  go_enter Try.func16, Try.ntmps16
  go_wp2
  go_loopg [9, 10] 3 (fun r v j wr => ((r = 3 ∧ v = .int .i64 0 ∧ j = .int .i64 0) ∨ (r = 2 ∧ v = .int .i64 x ∧ j = .int .i64 1) ∨ (r = 1 ∧ v = .int .i64 (x * 256 + y) ∧ j = .int .i64 2) ∨ (r = 0 ∧ v = .int .i64 ((x * 256 + y) * 256 + z) ∧ j = .int .i64 3)) ∧ wr = w)
  case atStart => exact ⟨.inl ⟨rfl, rfl, rfl⟩, rfl⟩
  case round =>
    obtain ⟨hcase, rfl⟩ := hrel
    rcases hcase with ⟨rfl, rfl, rfl⟩ | ⟨rfl, rfl, rfl⟩ | ⟨rfl, rfl, rfl⟩ | ⟨rfl, rfl, rfl⟩
    · go_wp2
      go_roundg 2
      case measure => omega
      case rel => exact ⟨.inr (.inl ⟨rfl, by go_num, rfl⟩), rfl⟩
    · go_wp2
      go_roundg 1
      case measure => omega
      case rel => exact ⟨.inr (.inr (.inl ⟨rfl, by go_num, rfl⟩)), rfl⟩
    · go_wp2
      go_roundg 0
      case measure => omega
      case rel => exact ⟨.inr (.inr (.inr ⟨rfl, by go_num, rfl⟩)), rfl⟩
    · go_wp2
      go_ret3
      exact ⟨rfl, rfl⟩

theorem getD_mid (A X C : List Int) (a j : Nat) (ha : A.length = a) (hj : j < X.length) : (A ++ X ++ C).getD (a + j) 0 = X.getD j 0 := by
  subst ha
  simp [List.getD, List.getElem?_append, hj]
  rw [if_neg (by omega)]
  rfl

theorem tuple3 {a a' b b' : Int} (ha : a = a') (hb : b = b') : Ending.returned (.tuple #[.int .i64 a, .int .i64 b, .bool true]) = .returned (.tuple #[.int .i64 a', .int .i64 b', .bool true]) := by rw [ha, hb]

/-- The strict reader reads back what the length table wrote. -/
theorem readLen (a : Option Addr) (A C : List Int) (n i L c : Nat) (w : World) (hi : A.length = i) (hL : (A ++ lenT n ++ C).length = L) (hn : n < 16777216) (hLb : L ≤ 16777216) (hr : Rd w a (A ++ lenT n ++ C)) :
    Calls Try.prog 16 #[.slice a L c, .int .i64 (i : Int)] w fun e w' => e = .returned (.tuple #[.int .i64 (n : Int), .int .i64 ((i + (lenT n).length : Nat) : Int), .bool true]) ∧ w' = w := by
  have hl := lenT_length n
  have hLs : L = i + (lenT n).length + C.length := by rw [← hL]; simp; omega
  obtain ⟨b, off, rfl, hc⟩ := hr.at (by omega)
  have cell : ∀ j, j < (lenT n).length → w.cell? ⟨b, off + (i + j), none⟩ = some (.int .u8 ((lenT n).getD j 0)) := fun j hj => by
    rw [hc (i + j) (by omega), getD_mid A (lenT n) C i j hi hj]
  by_cases h1 : n < 128
  · rw [lenT1 h1] at cell hLs ⊢
    simp at hLs
    have c0 := cell 0 (by simp)
    exact (read_1 b off i L c n w (by omega) hLb c0 (by omega) (by omega)).mono fun e w' ⟨he, hw⟩ => ⟨he.trans (tuple3 rfl (by simp)), hw⟩
  · by_cases h2 : n < 256
    · rw [lenT2 (by omega) h2] at cell hLs ⊢
      simp at hLs
      have c0 := cell 0 (by simp)
      have c1 := cell 1 (by simp)
      exact (read_2 b off i L c n w (by omega) hLb c0 c1 (by omega) (by omega)).mono fun e w' ⟨he, hw⟩ => ⟨he.trans (tuple3 rfl (by simp; omega)), hw⟩
    · by_cases h3 : n < 65536
      · rw [lenT3 (by omega) h3] at cell hLs ⊢
        simp at hLs
        have c0 := cell 0 (by simp)
        have c1 := cell 1 (by simp)
        have c2 := cell 2 (by simp)
        exact (read_3 b off i L c _ _ w (by omega) hLb c0 c1 c2 (by simp; omega) (by simp; omega) (by simp; omega) (by simp; omega)).mono fun e w' ⟨he, hw⟩ => ⟨he.trans (tuple3 (by simp; omega) (by simp; omega)), hw⟩
      · rw [lenT4 (by omega)] at cell hLs ⊢
        simp at hLs
        have c0 := cell 0 (by simp)
        have c1 := cell 1 (by simp)
        have c2 := cell 2 (by simp)
        have c3 := cell 3 (by simp)
        exact (read_4 b off i L c _ _ _ w (by omega) hLb c0 c1 c2 c3 (by simp; omega) (by simp; omega) (by simp; omega) (by simp; omega) (by simp; omega) (by simp; omega)).mono fun e w' ⟨he, hw⟩ => ⟨he.trans (tuple3 (by simp; omega) (by simp; omega)), hw⟩

end Go.Proofs.Qxb6601770a
