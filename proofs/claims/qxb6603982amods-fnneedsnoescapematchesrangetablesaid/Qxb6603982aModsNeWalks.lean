/-
  The walks: which bytes may stand quoted, said twice; the forward scan; the backward count.
-/
import Derived.Test.Qxb6603982aModsRows
import Derived.WalkKit
import Derived.ProofKit
import Derived.OpenShut
namespace Go.Proofs.Qxb6603982aMods
open Go.RowKit

theorem toHid {p : Prop} (h : p) : Hid p := h

/-- The bytes that may stand as they are: printable, no quote, no backslash. -/
def safe (n : Int) : Bool := decide (32 ≤ n ∧ n ≤ 126 ∧ n ≠ 39 ∧ n ≠ 92)

theorem safe_ranges (n : Int) : safe n = true ↔ (32 ≤ n ∧ n ≤ 38) ∨ (40 ≤ n ∧ n ≤ 91) ∨ (93 ≤ n ∧ n ≤ 126) := by
  unfold safe; rw [decide_eq_true_iff]; omega
theorem bad_ranges (n : Int) : safe n = false ↔ n < 32 ∨ n = 39 ∨ n = 92 ∨ 126 < n := by
  unfold safe; rw [decide_eq_false_iff_not]; omega

theorem stands_yes (n : Int) (w : World) (h : safe n = true) : Calls Trym.prog 7 #[.int .u8 n] w fun e w' => e = .returned (.bool true) ∧ w = w' := by
  rw [safe_ranges] at h
  have e1 : (n != 39) = true := bne_iff_ne.2 (by omega)
  have e2 : (n != 92) = true := bne_iff_ne.2 (by omega)
  rcases h with ⟨h1, h2⟩ | ⟨h1, h2⟩ | ⟨h1, h2⟩
  all_goals
    go_enter Trym.func7, Trym.ntmps7
    go_wp2
    go_ret
    exact ⟨rfl, rfl⟩

theorem stands_no (n : Int) (w : World) (h : safe n = false) : Calls Trym.prog 7 #[.int .u8 n] w fun e w' => e = .returned (.bool false) ∧ w = w' := by
  rw [bad_ranges] at h
  rcases h with h | rfl | rfl | h
  · go_enter Trym.func7, Trym.ntmps7
    go_wp2
    go_ret
    exact ⟨rfl, rfl⟩
  · go_enter Trym.func7, Trym.ntmps7
    go_wp2
    go_ret
    exact ⟨rfl, rfl⟩
  · go_enter Trym.func7, Trym.ntmps7
    go_wp2
    go_ret
    exact ⟨rfl, rfl⟩
  · go_enter Trym.func7, Trym.ntmps7
    go_wp2
    go_ret
    exact ⟨rfl, rfl⟩

theorem ranges_yes (n : Int) (w : World) (h : safe n = true) : Calls Trym.prog 5 #[.int .u8 n] w fun e w' => e = .returned (.bool true) ∧ w = w' := by
  rw [safe_ranges] at h
  rcases h with ⟨h1, h2⟩ | ⟨h1, h2⟩ | ⟨h1, h2⟩
  all_goals
    go_enter Trym.func5, Trym.ntmps5
    go_wp2
    go_ret
    exact ⟨rfl, rfl⟩

theorem ranges_no (n : Int) (w : World) (h : safe n = false) : Calls Trym.prog 5 #[.int .u8 n] w fun e w' => e = .returned (.bool false) ∧ w = w' := by
  rw [bad_ranges] at h
  rcases h with h | rfl | rfl | h
  all_goals
    go_enter Trym.func5, Trym.ntmps5
    go_wp2
    go_ret
    exact ⟨rfl, rfl⟩

theorem bytes_yes (s : ByteArray) (w : World) (h : s.size ≤ 1048576) : Calls Trym.prog 4 #[.string s] w fun e w' => e = .returned (.bool true) ∧ w = w' := by
  go_enter Trym.func4, Trym.ntmps4
  go_wp2
  go_ret
  exact ⟨rfl, rfl⟩

theorem bytes_no (s : ByteArray) (w : World) (h : 1048576 < s.size) (hm : s.size ≤ maxLen) : Calls Trym.prog 4 #[.string s] w fun e w' => e = .returned (.bool false) ∧ w = w' := by
  unfold maxLen at hm
  go_enter Trym.func4, Trym.ntmps4
  go_wp2
  go_ret
  exact ⟨rfl, rfl⟩

/-- The byte at a place. -/
def sb (s : ByteArray) (k : Nat) : Bool := if h : k < s.size then safe (s[k].toNat : Int) else true
theorem sb_at (s : ByteArray) (k : Nat) (h : k < s.size) : safe (s[k].toNat : Int) = sb s k := by unfold sb; rw [dif_pos h]

/-- Every byte is safe: the forward scan says true. -/
theorem needs_yes (s : ByteArray) (w : World) (hs : s.size ≤ 1048576) (h : ∀ k, k < s.size → sb s k = true) :
    Calls Trym.prog 6 #[.string s] w fun e w' => e = .returned (.bool true) ∧ w = w' := by
  have H := toHid h
  clear h
  go_enter Trym.func6, Trym.ntmps6
  go_wp2
  go_loop [3] (fun i => ∃ k : Nat, k ≤ s.size ∧ i = .int .i64 k) (fun i => s.size - (intOf i).toNat)
  case atStart => exact ⟨0, Nat.zero_le _, rfl⟩
  case round =>
    obtain ⟨k, hk, rfl⟩ := hrel
    by_cases hlt : k < s.size
    · have HS := toHid ((sb_at s k hlt).trans (H.out k hlt))
      go_wp2_with (go_at_call 7; refine (stands_yes _ _ HS.out).mono ?_; rintro e w' ⟨rfl, rfl⟩)
      go_round
      case rel => exact ⟨k + 1, by omega, by go_num⟩
      case measure => simp [intOf]; omega
    · go_wp2
      go_ret
      exact ⟨rfl, rfl⟩

/-- A byte is not safe: the forward scan says false. -/
theorem needs_no (s : ByteArray) (w : World) (hs : s.size ≤ 1048576) (m : Nat) (hm : m < s.size) (h : sb s m = false) :
    Calls Trym.prog 6 #[.string s] w fun e w' => e = .returned (.bool false) ∧ w = w' := by
  have H := toHid h
  clear h
  go_enter Trym.func6, Trym.ntmps6
  go_wp2
  go_loop [3] (fun i => ∃ k : Nat, k ≤ m ∧ i = .int .i64 k) (fun i => s.size - (intOf i).toNat)
  case atStart => exact ⟨0, Nat.zero_le _, rfl⟩
  case round =>
    obtain ⟨k, hk, rfl⟩ := hrel
    have hlt : k < s.size := by omega
    rcases hb : sb s k with _ | _
    · have HS := toHid ((sb_at s k hlt).trans hb)
      clear hb
      go_wp2_with (go_at_call 7; refine (stands_no _ _ HS.out).mono ?_; rintro e w' ⟨rfl, rfl⟩)
      go_ret
      exact ⟨rfl, rfl⟩
    · have hne : k ≠ m := by intro e; subst e; rw [H.out] at hb; cases hb
      have hkm : k < m := by omega
      have HS := toHid ((sb_at s k hlt).trans hb)
      clear hb hne
      go_wp2_with (go_at_call 7; refine (stands_yes _ _ HS.out).mono ?_; rintro e w' ⟨rfl, rfl⟩)
      go_round
      case rel => exact ⟨k + 1, by omega, by go_num⟩
      case measure => simp [intOf]; omega

/-- What the backward count has come to at place k: 'b' bytes from k on are not safe; none exactly when all are safe. -/
def Cnt (s : ByteArray) (k b : Nat) : Prop := b + k ≤ s.size ∧ (b = 0 ↔ ∀ j, k ≤ j → j < s.size → sb s j = true)

theorem Cnt.start (s : ByteArray) : Cnt s s.size 0 := ⟨by omega, by simp; intro j h1 h2; omega⟩
theorem Cnt.good {s : ByteArray} {k b : Nat} (h : Cnt s (k + 1) b) (hb : sb s k = true) : Cnt s k b := by
  refine ⟨by have := h.1; omega, h.2.trans ⟨fun H j h1 h2 => ?_, fun H j h1 h2 => H j (by omega) h2⟩⟩
  by_cases e : j = k
  · subst e; exact hb
  · exact H j (by omega) h2
theorem Cnt.bad {s : ByteArray} {k b : Nat} (h : Cnt s (k + 1) b) (hb : sb s k = false) : Cnt s k (b + 1) := by
  refine ⟨by have := h.1; omega, ⟨fun e => by omega, fun H => ?_⟩⟩
  have := H k (Nat.le_refl _) (by have := h.1; omega)
  rw [hb] at this; cases this

theorem Cnt.some_bad {s : ByteArray} {b : Nat} (h : Cnt s 0 (b + 1)) : ∃ m, m < s.size ∧ sb s m = false := by
  apply Classical.byContradiction
  intro hn
  have := h.2.2 (fun j _ hj => by
    rcases hb : sb s j with _ | _
    · exact absurd ⟨j, hj, hb⟩ hn
    · rfl)
  omega

set_option maxHeartbeats 400000 in
theorem law_any (s : ByteArray) (w : World) (hm : s.size ≤ maxLen) :
    Calls Trym.prog 3 #[.string s] w fun e w' => e = .returned (.bool true) ∧ w = w' := by
  by_cases hs : s.size ≤ 1048576
  · go_enter Trym.func3, Trym.ntmps3
    go_wp2_with fail
    refine (bytes_yes _ _ hs).mono ?_
    rintro e w' ⟨rfl, rfl⟩
    go_wp2_with fail
    go_loop [3, 4] (fun n i => ∃ k b : Nat, k ≤ s.size ∧ i = .int .i64 k ∧ n = .int .i64 b ∧ Cnt s k b) (fun _ i => (intOf i).toNat)
    case atStart => exact ⟨s.size, 0, Nat.le_refl _, rfl, rfl, Cnt.start s⟩
    case round =>
      obtain ⟨k, b, hk, rfl, rfl, hc⟩ := hrel
      have hbk := hc.1
      have C := toHid hc
      clear hc
      rcases k with _ | k
      · rcases b with _ | b
        · have A := toHid (fun j hj => (C.out.2.1 rfl) j (Nat.zero_le _) hj)
          clear C
          go_wp2_with fail
          refine (needs_yes s _ hs A.out).mono ?_
          rintro e w' ⟨rfl, rfl⟩
          go_wp2_with fail
          go_ret
          exact ⟨rfl, rfl⟩
        · obtain ⟨m, hm1, hm2⟩ := C.out.some_bad
          have A := toHid hm2
          have hz : (((b + 1 : Nat) : Int) == 0) = false := by rw [beq_eq_false_iff_ne]; omega
          clear C hm2
          go_wp2_with fail
          refine (needs_no s _ hs m hm1 A.out).mono ?_
          rintro e w' ⟨rfl, rfl⟩
          go_wp2_with fail
          go_ret
          exact ⟨rfl, rfl⟩
      · have hlt : k < s.size := by omega
        rcases hb : sb s k with _ | _
        · have HS := toHid ((sb_at s k hlt).trans hb)
          have N := toHid (C.out.bad hb)
          clear hb C
          go_wp2_with fail
          refine (ranges_no _ _ HS.out).mono ?_
          rintro e w' ⟨rfl, rfl⟩
          go_wp2_with fail
          go_round
          case rel => exact ⟨k, b + 1, by omega, by go_num, by go_num, N.out⟩
          case measure => simp [intOf]
        · have HS := toHid ((sb_at s k hlt).trans hb)
          have N := toHid (C.out.good hb)
          clear hb C
          go_wp2_with fail
          refine (ranges_yes _ _ HS.out).mono ?_
          rintro e w' ⟨rfl, rfl⟩
          go_wp2_with fail
          go_round
          case rel => exact ⟨k, b, by omega, by go_num, rfl, N.out⟩
          case measure => simp [intOf]
  · go_enter Trym.func3, Trym.ntmps3
    go_wp2_with fail
    refine (bytes_no _ _ (by omega) hm).mono ?_
    rintro e w' ⟨rfl, rfl⟩
    go_wp2_with fail
    go_ret
    exact ⟨rfl, rfl⟩

end Go.Proofs.Qxb6603982aMods
