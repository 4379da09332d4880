/-
  The walks of allDigits and its shim, of the counting model, of the bound.
-/
import Derived.Test.Qxb6604020aModsRows
import Derived.WalkKit
import Derived.ProofKit
import Derived.OpenShut
import Derived.LoopN
namespace Go.Proofs.Qxb6604020aMods
open Go.RowKit

theorem toHid {p : Prop} (h : p) : Hid p := h

/-- A decimal digit's byte. -/
def dg (n : Int) : Bool := decide (48 ≤ n ∧ n ≤ 57)
theorem dg_yes {n : Int} (h : dg n = true) : 48 ≤ n ∧ n ≤ 57 := of_decide_eq_true h
theorem dg_no {n : Int} (h : dg n = false) : n < 48 ∨ 57 < n := by have := of_decide_eq_false h; omega

/-- The byte at a place is a digit. -/
def db (s : ByteArray) (k : Nat) : Bool := if h : k < s.size then dg (s[k].toNat : Int) else true
theorem db_at (s : ByteArray) (k : Nat) (h : k < s.size) : dg (s[k].toNat : Int) = db s k := by unfold db; rw [dif_pos h]

theorem not_empty (s : ByteArray) (h : 0 < s.size) : s.toList.isEmpty = false := by
  rw [ByteArray.toList_eq, List.isEmpty_eq_false_iff]
  intro e
  have : s.data.toList.length = 0 := by rw [e]; rfl
  simp at this
  have h2 : s.size = s.data.size := rfl
  rw [h2, this] at h
  simp at h

theorem all_yes (s : ByteArray) (w : World) (hs : s.size ≤ 1000000000) (h0 : 0 < s.size) (h : ∀ k, k < s.size → db s k = true) :
    Calls Trym.prog 9 #[.string s] w fun e w' => e = .returned (.bool true) ∧ w = w' := by
  have H := toHid h
  have he := not_empty s h0
  clear h
  go_enter Trym.func9, Trym.ntmps9
  go_wp2
  go_loop [3] (fun i => ∃ k : Nat, k ≤ s.size ∧ i = .int .i64 k) (fun i => s.size - (intOf i).toNat)
  case atStart => exact ⟨0, Nat.zero_le _, rfl⟩
  case round =>
    obtain ⟨k, hk, rfl⟩ := hrel
    by_cases hlt : k < s.size
    · have HS := dg_yes ((db_at s k hlt).trans (H.out k hlt))
      go_wp2
      go_round
      case rel => exact ⟨k + 1, by omega, by go_num⟩
      case measure => simp [intOf]; omega
    · go_wp2
      go_ret
      exact ⟨rfl, rfl⟩

theorem all_no (s : ByteArray) (w : World) (hs : s.size ≤ 1000000000) (m : Nat) (hm : m < s.size) (h : db s m = false) :
    Calls Trym.prog 9 #[.string s] w fun e w' => e = .returned (.bool false) ∧ w = w' := by
  have H := toHid h
  clear h
  go_enter Trym.func9, Trym.ntmps9
  go_wp2
  go_loop [3] (fun i => ∃ k : Nat, k ≤ m ∧ i = .int .i64 k) (fun i => s.size - (intOf i).toNat)
  case atStart => exact ⟨0, Nat.zero_le _, rfl⟩
  case round =>
    obtain ⟨k, hk, rfl⟩ := hrel
    have hlt : k < s.size := by omega
    rcases hb : db s k with _ | _
    · have HS := dg_no ((db_at s k hlt).trans hb)
      clear hb
      rcases HS with HS | HS
      · go_wp2
        go_ret
        exact ⟨rfl, rfl⟩
      · go_wp2
        go_ret
        exact ⟨rfl, rfl⟩
    · have hne : k ≠ m := by intro e; subst e; rw [H.out] at hb; cases hb
      have hkm : k < m := by omega
      have HS := dg_yes ((db_at s k hlt).trans hb)
      clear hb hne
      go_wp2
      go_round
      case rel => exact ⟨k + 1, by omega, by go_num⟩
      case measure => simp [intOf]; omega

theorem all_empty (s : ByteArray) (w : World) (h0 : s.size = 0) :
    Calls Trym.prog 9 #[.string s] w fun e w' => e = .returned (.bool false) ∧ w = w' := by
  obtain rfl : s = ByteArray.empty := by
    apply ByteArray.ext
    exact Array.eq_empty_of_size_eq_zero h0
  clear h0
  go_enter Trym.func9, Trym.ntmps9
  go_wp2
  refine wp_loop_rounds 1 ?_
  rw [rounds_succ]
  go_wp2
  go_ret
  exact ⟨rfl, rfl⟩

theorem zz_of (s : ByteArray) (w : World) (b : Bool) (h : ∀ w, Calls Trym.prog 9 #[.string s] w fun e w' => e = .returned (.bool b) ∧ w = w') :
    Calls Trym.prog 6 #[.string s] w fun e w' => e = .returned (.bool b) ∧ w = w' := by
  have H := toHid h
  clear h
  go_enter Trym.func6, Trym.ntmps6
  go_wp2_with fail
  refine (H.out _).mono ?_
  rintro e w' ⟨rfl, rfl⟩
  go_wp2_with fail
  go_ret
  exact ⟨rfl, rfl⟩

theorem ret_bool {a b : Bool} (h : a = b) : Ending.returned (.bool a) = .returned (.bool b) := by rw [h]

theorem digit_yes (n : Int) (w : World) (h : dg n = true) : Calls Trym.prog 10 #[.int .u8 n] w fun e w' => e = .returned (.bool true) ∧ w = w' := by
  obtain ⟨h1, h2⟩ := dg_yes h
  clear h
  go_enter Trym.func10, Trym.ntmps10
  go_wp2
  go_ret
  exact ⟨ret_bool (decide_eq_true (by omega)), rfl⟩

theorem digit_no (n : Int) (w : World) (h : dg n = false) (h0 : 0 ≤ n) (h9 : n ≤ 255) : Calls Trym.prog 10 #[.int .u8 n] w fun e w' => e = .returned (.bool false) ∧ w = w' := by
  have H := toHid (dg_no h)
  clear h
  go_enter Trym.func10, Trym.ntmps10
  go_wp2
  go_ret
  exact ⟨ret_bool (decide_eq_false (by rcases H.out with h | h <;> omega)), rfl⟩

theorem bytes_yes (s : ByteArray) (w : World) (h : s.size ≤ 1048576) : Calls Trym.prog 5 #[.string s] w fun e w' => e = .returned (.bool true) ∧ w = w' := by
  go_enter Trym.func5, Trym.ntmps5
  go_wp2
  go_ret
  exact ⟨rfl, rfl⟩

theorem bytes_no (s : ByteArray) (w : World) (h : 1048576 < s.size) (hm : s.size ≤ maxLen) : Calls Trym.prog 5 #[.string s] w fun e w' => e = .returned (.bool false) ∧ w = w' := by
  unfold maxLen at hm
  go_enter Trym.func5, Trym.ntmps5
  go_wp2
  go_ret
  exact ⟨rfl, rfl⟩

/-- Of the first k bytes n are digits: all k exactly when each is one. -/
def Cnt (s : ByteArray) (k n : Nat) : Prop := n ≤ k ∧ (n = k ↔ ∀ j, j < k → db s j = true)
theorem Cnt.start (s : ByteArray) : Cnt s 0 0 := ⟨Nat.le_refl _, by simp⟩
theorem Cnt.good {s : ByteArray} {k n : Nat} (h : Cnt s k n) (hb : db s k = true) : Cnt s (k + 1) (n + 1) := by
  refine ⟨by have := h.1; omega, ⟨fun e j hj => ?_, fun H => ?_⟩⟩
  · by_cases e2 : j = k
    · subst e2; exact hb
    · exact h.2.1 (by omega) j (by omega)
  · have := h.2.2 (fun j hj => H j (by omega)); omega
theorem Cnt.bad {s : ByteArray} {k n : Nat} (h : Cnt s k n) (hb : db s k = false) : Cnt s (k + 1) n := by
  refine ⟨by have := h.1; omega, ⟨fun e => by have := h.1; omega, fun H => ?_⟩⟩
  have := H k (by omega)
  rw [hb] at this; cases this

theorem byte_le (s : ByteArray) (k : Nat) (h : k < s.size) : (s[k].toNat : Int) ≤ 255 := by
  have := s[k].toNat_lt; omega

/-- The counting model: true exactly when the string is not empty and all its bytes are digits. -/
theorem model_any (s : ByteArray) (w : World) (hs : s.size ≤ 1048576) (r : Bool) (hr : r = true ↔ 0 < s.size ∧ ∀ k, k < s.size → db s k = true) :
    Calls Trym.prog 7 #[.string s] w fun e w' => e = .returned (.bool r) ∧ w = w' := by
  have HR := toHid hr
  clear hr
  go_enter Trym.func7, Trym.ntmps7
  go_wp2
  go_loop [3, 4] (fun n i => ∃ k m : Nat, k ≤ s.size ∧ i = .int .i64 k ∧ n = .int .i64 m ∧ Cnt s k m) (fun _ i => s.size - (intOf i).toNat)
  case atStart => exact ⟨0, 0, Nat.zero_le _, rfl, rfl, Cnt.start s⟩
  case round =>
    obtain ⟨k, m, hk, rfl, rfl, hc⟩ := hrel
    have hmk := hc.1
    have C := toHid hc
    clear hc
    by_cases hlt : k < s.size
    · have h9 := byte_le s k hlt
      rcases hb : db s k with _ | _
      · have HS := toHid ((db_at s k hlt).trans hb)
        have N := toHid (C.out.bad hb)
        clear hb C
        go_wp2_with fail
        refine (digit_no _ _ HS.out (by omega) h9).mono ?_
        rintro e w' ⟨rfl, rfl⟩
        go_wp2_with fail
        go_round
        case rel => exact ⟨k + 1, m, by omega, by go_num, rfl, N.out⟩
        case measure => simp [intOf]; omega
      · have HS := toHid ((db_at s k hlt).trans hb)
        have N := toHid (C.out.good hb)
        clear hb C
        go_wp2_with fail
        refine (digit_yes _ _ HS.out).mono ?_
        rintro e w' ⟨rfl, rfl⟩
        go_wp2_with fail
        go_round
        case rel => exact ⟨k + 1, m + 1, by omega, by go_num, by go_num, N.out⟩
        case measure => simp [intOf]; omega
    · have ek : k = s.size := by omega
      subst ek
      have N := toHid C.out.2
      clear C
      by_cases h0 : 0 < s.size
      · go_wp2
        go_ret
        refine ⟨ret_bool ?_, rfl⟩
        rw [Bool.eq_iff_iff, HR.out, beq_iff_eq]
        exact ⟨fun h => ⟨h0, N.out.1 (by omega)⟩, fun h => by have := N.out.2 h.2; omega⟩
      · go_wp2
        go_ret
        refine ⟨ret_bool ?_, rfl⟩
        rw [Bool.eq_iff_iff, HR.out]
        exact ⟨fun h => absurd h (by decide), fun h => absurd h.1 h0⟩

theorem law_any (s : ByteArray) (w : World) (hm : s.size ≤ maxLen) :
    Calls Trym.prog 3 #[.string s] w fun e w' => e = .returned (.bool true) ∧ w = w' := by
  by_cases hs : s.size ≤ 1048576
  · obtain ⟨r, hr, hz⟩ : ∃ r : Bool, (r = true ↔ 0 < s.size ∧ ∀ k, k < s.size → db s k = true) ∧ ∀ w, Calls Trym.prog 9 #[.string s] w fun e w' => e = .returned (.bool r) ∧ w = w' := by
      by_cases h0 : 0 < s.size
      · by_cases ha : ∀ k, k < s.size → db s k = true
        · exact ⟨true, by simp [h0]; exact ha, fun w => all_yes s w (by omega) h0 ha⟩
        · obtain ⟨m, hm1, hm2⟩ : ∃ m, m < s.size ∧ db s m = false := by
            apply Classical.byContradiction
            intro hn
            refine ha fun j hj => ?_
            rcases hb : db s j with _ | _
            · exact absurd ⟨j, hj, hb⟩ hn
            · rfl
          exact ⟨false, ⟨fun h => absurd h (by decide), fun h => absurd h.2 ha⟩, fun w => all_no s w (by omega) m hm1 hm2⟩
      · exact ⟨false, ⟨fun h => absurd h (by decide), fun h => absurd h.1 h0⟩, fun w => all_empty s w (by omega)⟩
    have HR := toHid hr
    have HZ := toHid hz
    clear hr hz
    go_enter Trym.func3, Trym.ntmps3
    go_wp2_with fail
    refine (bytes_yes _ _ hs).mono ?_
    rintro e w' ⟨rfl, rfl⟩
    go_wp2_with fail
    refine (zz_of s _ r HZ.out).mono ?_
    rintro e w' ⟨rfl, rfl⟩
    go_wp2_with fail
    refine (model_any s _ hs r HR.out).mono ?_
    rintro e w' ⟨rfl, rfl⟩
    go_wp2_with fail
    go_ret
    exact ⟨ret_bool (by simp), rfl⟩
  · go_enter Trym.func3, Trym.ntmps3
    go_wp2_with fail
    refine (bytes_no _ _ (by omega) hm).mono ?_
    rintro e w' ⟨rfl, rfl⟩
    go_wp2_with fail
    go_ret
    exact ⟨rfl, rfl⟩

end Go.Proofs.Qxb6604020aMods
