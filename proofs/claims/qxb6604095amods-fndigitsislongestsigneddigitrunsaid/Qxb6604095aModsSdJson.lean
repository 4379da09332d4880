/-
  The grammar model of a JSON integer, at a run that digits has read.
-/
import Derived.Test.Qxb6604095aModsSdRead
namespace Go.Proofs.Qxb6604095aMods
open Go.RowKit

set_option maxHeartbeats 400000 in
theorem json_empty (w : World) (oa : Option Addr) (cx : Nat) : Calls Trym.prog 9 #[.slice oa 0 cx] w fun e w' => e = .returned (.bool false) ∧ w = w' := by
  go_enter Trym.func9, Trym.ntmps9
  go_wp2
  go_ret
  exact ⟨rfl, rfl⟩

/-- A sign alone. -/
theorem json_sign_alone (w : World) (g a cx : Nat) (c0 : w.cell? ⟨g, a, none⟩ = some (.int .u8 45)) : Calls Trym.prog 9 #[.slice (some ⟨g, a, none⟩) 1 cx] w fun e w' => e = .returned (.bool false) ∧ w = w' := by
  go_enter Trym.func9, Trym.ntmps9
  go_wp2
  go_ret
  exact ⟨rfl, rfl⟩

set_option maxHeartbeats 400000 in
theorem json_sign_zero (w : World) (g a cx m : Nat) (hm : 2 ≤ m) (hm9 : m ≤ 10000000) (c0 : w.cell? ⟨g, a, none⟩ = some (.int .u8 45)) (c1 : w.cell? ⟨g, a + 1, none⟩ = some (.int .u8 48)) :
    Calls Trym.prog 9 #[.slice (some ⟨g, a, none⟩) m cx] w fun e w' => e = .returned (.bool (decide (m = 2))) ∧ w = w' := by
  go_enter Trym.func9, Trym.ntmps9
  go_wp2
  go_ret
  refine ⟨ret_bool ?_, rfl⟩
  rw [Bool.eq_iff_iff, decide_eq_true_iff, beq_iff_eq]
  omega

set_option maxHeartbeats 400000 in
theorem json_zero (w : World) (g a cx m : Nat) (hm : 1 ≤ m) (hm9 : m ≤ 10000000) (c0 : w.cell? ⟨g, a, none⟩ = some (.int .u8 48)) :
    Calls Trym.prog 9 #[.slice (some ⟨g, a, none⟩) m cx] w fun e w' => e = .returned (.bool (decide (m = 1))) ∧ w = w' := by
  go_enter Trym.func9, Trym.ntmps9
  go_wp2
  go_ret
  refine ⟨ret_bool ?_, rfl⟩
  rw [Bool.eq_iff_iff, decide_eq_true_iff, beq_iff_eq]
  omega

set_option maxHeartbeats 400000 in
theorem json_sign_many (w : World) (g a cx m : Nat) (c : Int) (hm : 2 ≤ m) (hm9 : m ≤ 10000000) (c0 : w.cell? ⟨g, a, none⟩ = some (.int .u8 45)) (c1 : w.cell? ⟨g, a + 1, none⟩ = some (.int .u8 c)) (hc1 : 49 ≤ c) (hc2 : c ≤ 57)
    (hd : ∀ j, 2 ≤ j → j < m → ∃ d : Int, 48 ≤ d ∧ d ≤ 57 ∧ w.cell? ⟨g, a + j, none⟩ = some (.int .u8 d)) :
    Calls Trym.prog 9 #[.slice (some ⟨g, a, none⟩) m cx] w fun e w' => e = .returned (.bool true) ∧ w = w' := by
  have HD := toHid hd
  clear hd
  have hz : (c == 48) = false := by rw [beq_eq_false_iff_ne]; omega
  go_enter Trym.func9, Trym.ntmps9
  go_wp2
  go_loop [4] (fun i => ∃ j : Nat, 2 ≤ j ∧ j ≤ m ∧ i = .int .i64 j) (fun i => m - (intOf i).toNat)
  case atStart => exact ⟨2, Nat.le_refl _, hm, rfl⟩
  case round =>
    obtain ⟨j, hj1, hj2, rfl⟩ := hrel
    by_cases hlt : j < m
    · obtain ⟨d, hd1, hd2, cj⟩ := HD.out j hj1 hlt
      go_wp2_with fail
      refine (digit_yes d _ hd1 hd2).mono ?_
      rintro e w' ⟨rfl, rfl⟩
      go_wp2_with fail
      go_round
      case rel => exact ⟨j + 1, by omega, by omega, by go_num⟩
      case measure => simp [intOf]; omega
    · go_wp2
      go_ret
      exact ⟨rfl, rfl⟩

set_option maxHeartbeats 400000 in
theorem json_many (w : World) (g a cx m : Nat) (c : Int) (hm : 1 ≤ m) (hm9 : m ≤ 10000000) (c1 : w.cell? ⟨g, a, none⟩ = some (.int .u8 c)) (hc1 : 49 ≤ c) (hc2 : c ≤ 57)
    (hd : ∀ j, 1 ≤ j → j < m → ∃ d : Int, 48 ≤ d ∧ d ≤ 57 ∧ w.cell? ⟨g, a + j, none⟩ = some (.int .u8 d)) :
    Calls Trym.prog 9 #[.slice (some ⟨g, a, none⟩) m cx] w fun e w' => e = .returned (.bool true) ∧ w = w' := by
  have HD := toHid hd
  clear hd
  have hz : (c == 48) = false := by rw [beq_eq_false_iff_ne]; omega
  have hz2 : (c == 45) = false := by rw [beq_eq_false_iff_ne]; omega
  go_enter Trym.func9, Trym.ntmps9
  go_wp2
  go_loop [4] (fun i => ∃ j : Nat, 1 ≤ j ∧ j ≤ m ∧ i = .int .i64 j) (fun i => m - (intOf i).toNat)
  case atStart => exact ⟨1, Nat.le_refl _, hm, rfl⟩
  case round =>
    obtain ⟨j, hj1, hj2, rfl⟩ := hrel
    by_cases hlt : j < m
    · obtain ⟨d, hd1, hd2, cj⟩ := HD.out j hj1 hlt
      go_wp2_with fail
      refine (digit_yes d _ hd1 hd2).mono ?_
      rintro e w' ⟨rfl, rfl⟩
      go_wp2_with fail
      go_round
      case rel => exact ⟨j + 1, by omega, by omega, by go_num⟩
      case measure => simp [intOf]; omega
    · go_wp2
      go_ret
      exact ⟨rfl, rfl⟩

theorem json_run (w : World) (oa : Option Addr) (cx : Nat) (zs : List Int) (a s e : Nat) (hn : zs.length ≤ 10000000) (hr : Run zs a s e) (hR : RdAt w oa (e - a) a zs) :
    Calls Trym.prog 9 #[.slice oa (e - a) cx] w fun r w' => r = .returned (.bool (okOf zs s e)) ∧ w = w' := by
  have hse := hr.se
  have hen := hr.en
  by_cases hm : e - a = 0
  · have h : okOf zs s e = false := by
      have : ¬ s < e := by rcases hr.sgn with ⟨h, _⟩ | ⟨h, _⟩ | ⟨h, _⟩ <;> omega
      simp [okOf, this]
    rw [hm, h]
    exact json_empty w oa cx
  rcases hR with h | ⟨g, rfl, hc⟩
  · exact absurd h hm
  rcases hr.sgn with ⟨rfl, ha, h45⟩ | ⟨rfl, ha, h45⟩ | ⟨_, h⟩
  · have c0 : w.cell? ⟨g, a, none⟩ = some (.int .u8 45) := by rw [hc a (Nat.le_refl _) (by omega), h45]
    by_cases h1 : e = a + 1
    · have h : okOf zs (a + 1) e = false := by simp [okOf, h1]
      rw [h, show e - a = 1 by omega]
      exact json_sign_alone w g a cx c0
    · have hd := hr.dig (a + 1) (Nat.le_refl _) (by omega)
      have c1 := hc (a + 1) (by omega) (by omega)
      by_cases h48 : zs.getD (a + 1) 0 = 48
      · rw [h48] at c1
        have h : okOf zs (a + 1) e = decide (e - a = 2) := by
          rw [Bool.eq_iff_iff]; unfold okOf; rw [h48]; simp; omega
        rw [h]
        exact json_sign_zero w g a cx (e - a) (by omega) (by omega) c0 c1
      · have h : okOf zs (a + 1) e = true := by have := okOf_many (zs := zs) (s := a + 1) (e := e) (by omega) h48; simpa using this
        rw [h]
        exact json_sign_many w g a cx (e - a) _ (by omega) (by omega) c0 c1 (by omega) hd.2 fun j h2 h3 =>
          ⟨_, (hr.dig (a + j) (by omega) (by omega)).1, (hr.dig (a + j) (by omega) (by omega)).2, hc (a + j) (by omega) (by omega)⟩
  · have hd := hr.dig s (Nat.le_refl _) (by omega)
    have c1 := hc s (Nat.le_refl _) (by omega)
    by_cases h48 : zs.getD s 0 = 48
    · rw [h48] at c1
      have h : okOf zs s e = decide (e - s = 1) := by
        rw [Bool.eq_iff_iff]; unfold okOf; rw [h48]; simp; omega
      rw [h]
      exact json_zero w g s cx (e - s) (by omega) (by omega) c1
    · have h : okOf zs s e = true := by have := okOf_many (zs := zs) (s := s) (e := e) (by omega) h48; simpa using this
      rw [h]
      exact json_many w g s cx (e - s) _ (by omega) (by omega) c1 (by omega) hd.2 fun j h2 h3 =>
        ⟨_, (hr.dig (s + j) (by omega) (by omega)).1, (hr.dig (s + j) (by omega) (by omega)).2, hc (s + j) (by omega) (by omega)⟩
  · omega

end Go.Proofs.Qxb6604095aMods
