/-
  The walk of the law itself, out of the contracts.
-/
import Derived.Test.Qxb6603830aModsIxRest
namespace Go.Proofs.Qxb6603830aMods
open Go.RowKit

/-- The first n numbers of zs can be read through a slice at 'ao'. -/
def Rd (w : World) (ao : Option Addr) (n : Nat) (zs : List Int) : Prop :=
  n = 0 ∨ ∃ g, ao = some ⟨g, 0, none⟩ ∧ ∀ j, j < n → w.cell? ⟨g, j, none⟩ = some (.int .u8 (zs.getD j 0))

theorem same_rd (w : World) (ao bo : Option Addr) (ca cb n : Nat) (zs : List Int) (hn : n ≤ 1000000000) (ha : Rd w ao n zs) (hb : Rd w bo n zs) :
    Calls Trym.prog 7 #[.slice ao n ca, .slice bo n cb] w fun e w' => e = .returned (.bool true) ∧ ∃ q, w' = w.drewN q := by
  by_cases h0 : n = 0
  · subst h0
    exact same_none w ao bo ca cb
  · rcases ha with h | ⟨ga, rfl, ha⟩
    · exact absurd h h0
    · rcases hb with h | ⟨gb, rfl, hb⟩
      · exact absurd h h0
      · exact same_any w ga gb ca cb n zs hn ha hb

theorem Full.rd {w : World} {v : Value} {zs : List Int} (h : Full w v zs) : ∃ ao, v = .slice ao zs.length zs.length ∧ ∀ w', Below w.heap.size w w' → Rd w' ao zs.length zs := by
  rcases h with ⟨rfl, rfl⟩ | ⟨g, rfl, hg, hc⟩
  · exact ⟨none, rfl, fun _ _ => .inl rfl⟩
  · exact ⟨_, rfl, fun w' hb => .inr ⟨g, rfl, fun j hj => (hb.cell (p := ⟨g, j, none⟩) hg).trans (hc j hj)⟩⟩

/-- What the copy leaves. -/
def Cloned (w : World) (a0 : Option Addr) (len cap : Nat) (ys : List Int) : Prop :=
  ys.length = len ∧ Calls Trym.prog 5 #[.slice a0 len cap] w fun e w' => ∃ v, e = .returned v ∧ Full w' v ys ∧ Below w.heap.size w w'

theorem getD_left (a b : List Int) (j : Nat) (h : j < a.length) : (a ++ b).getD j 0 = a.getD j 0 := by
  simp [List.getD, List.getElem?_append_left h]
theorem getD_right (a b : List Int) (j : Nat) (h : a.length ≤ j) : (a ++ b).getD j 0 = b.getD (j - a.length) 0 := by
  simp [List.getD, List.getElem?_append_right h]
theorem getD_rep (n j : Nat) (c : Int) (h : j < n) : (List.replicate n c).getD j 0 = c := by
  simp [List.getD, h]

theorem read_break {p : Nat} {w : World} {v : Value} {ys : List Int} {k : Nat} (h : Txt p w v (ys ++ [10] ++ List.replicate k 32)) :
    ∃ g cap N, v = .slice (some ⟨g, 0, none⟩) N cap ∧ N ≤ cap ∧ N ≤ ys.length + 1 + k ∧ ys.length + 1 + k ≤ N ∧ Rd w (some ⟨g, 0, none⟩) ys.length ys ∧ w.cell? ⟨g, ys.length, none⟩ = some (.int .u8 10) ∧
      ∀ j, ys.length + 1 ≤ j → j < N → w.cell? ⟨g, j, none⟩ = some (.int .u8 32) := by
  have hl : (ys ++ [10] ++ List.replicate k (32 : Int)).length = ys.length + 1 + k := by simp; omega
  rcases h.read with ⟨_, h0⟩ | ⟨g, cap, hv, hle, hc⟩
  · rw [h0] at hl; simp at hl; omega
  · refine ⟨g, cap, _, hv, hle, Nat.le_of_eq hl, Nat.le_of_eq hl.symm, .inr ⟨g, rfl, fun j hj => ?_⟩, ?_, fun j h1 h2 => ?_⟩
    · rw [hc j (by omega), List.append_assoc, getD_left _ _ _ hj]
    · rw [hc _ (by omega), List.append_assoc, getD_right _ _ _ (Nat.le_refl _)]; simp
    · rw [hc j h2, getD_right _ _ _ (by simp; omega), getD_rep _ _ _ (by simp; omega)]

theorem read_stay {p : Nat} {w : World} {v : Value} {ys : List Int} {k : Nat} (h : Txt p w v (ys ++ List.replicate k 32)) :
    (v = .slice none 0 0 ∧ ys.length = 0 ∧ k = 0) ∨ ∃ g cap N, v = .slice (some ⟨g, 0, none⟩) N cap ∧ N ≤ cap ∧ N ≤ ys.length + k ∧ ys.length + k ≤ N ∧ Rd w (some ⟨g, 0, none⟩) ys.length ys ∧
      ∀ j, ys.length ≤ j → j < N → w.cell? ⟨g, j, none⟩ = some (.int .u8 32) := by
  have hl : (ys ++ List.replicate k (32 : Int)).length = ys.length + k := by simp
  rcases h.read with ⟨hv, h0⟩ | ⟨g, cap, hv, hle, hc⟩
  · rw [h0] at hl
    have hl' : 0 = ys.length + k := hl
    exact .inl ⟨hv, by omega, by omega⟩
  · refine .inr ⟨g, cap, _, hv, hle, Nat.le_of_eq hl, Nat.le_of_eq hl.symm, .inr ⟨g, rfl, fun j hj => ?_⟩, fun j h1 h2 => ?_⟩
    · rw [hc j (by omega), getD_left _ _ _ hj]
    · rw [hc j h2, getD_right _ _ _ h1, getD_rep _ _ _ (by omega)]

set_option maxHeartbeats 400000 in
theorem law_break (w : World) (a0 : Option Addr) (len cap : Nat) (ys : List Int) (a1 : Int) (a2 a3 : Bool) (a4 : Int) (hlen : len ≤ 1048576) (hcl : Cloned w a0 len cap ys) (h4 : a4 ≤ 65536)
    (hg : a3 = true → -65536 ≤ a1) (hbr : a3 = false ∨ max a4 0 < a1) :
    Calls Trym.prog 3 #[.slice a0 len cap, .int .i64 a1, .bool a2, .bool a3, .int .i64 a4] w fun e w' => e = .returned (.bool true) ∧ Below w.heap.size w w' := by
  obtain ⟨hys, hcl⟩ := hcl
  subst hys
  have HCL := toHid <| hcl
  clear hcl
  have HI : Hid (∀ p w1, Wr p w1 ys a1 a2 a3 → Calls Trym.prog 8 #[.pointer (some ⟨p, 0, none⟩), .int .i64 a4] w1 fun e w' => e = .returned (.tuple #[]) ∧ Wr p w' (ys ++ [10] ++ List.replicate (max a4 0).toNat 32) (max a4 0) true true ∧ Below p w1 w') :=
    fun p w1 h => indent_break p w1 ys a1 a4 a2 a3 h (by omega) h4 hbr
  obtain ⟨k, hk, hki⟩ : ∃ k : Nat, max a4 0 = (k : Int) ∧ ((a4 = (k : Int)) ∨ (a4 < 0 ∧ k = 0)) := ⟨(max a4 0).toNat, by omega, by omega⟩
  have hk1 : k ≤ 65536 := by omega
  rw [hk] at hbr HI
  rw [Int.toNat_natCast] at HI
  clear hk
  rcases hki with rfl | ⟨hin, rfl⟩ <;> rcases a3 with _ | _
  · clear hbr hg
    go_enter Trym.func3, Trym.ntmps3
    go_wp2_with fail
    refine (bytes_yes _ _ _ _ _ _ _ _ hlen).mono ?_
    rintro e w' ⟨rfl, rfl⟩
    go_wp2_with fail
    refine HCL.out.mono ?_
    rintro e w1 ⟨v, rfl, hF, hb1⟩
    obtain ⟨ao, rfl, hrd⟩ := hF.rd
    have HF := toHid <| hF
    have HR := toHid <| hrd
    have HB := toHid <| hb1
    clear hF hrd hb1
    go_wp2_with fail
    refine (zz_any w1 _ ys _ _ _ k _ _ HF.out HI.out).mono ?_
    rintro e w2 ⟨v', rfl, ht, hb2⟩
    obtain ⟨g, cg, N, rfl, hNc, hN1, hN2, hra, h10, h32⟩ := read_break ht
    have HA := toHid hra
    have HB2 := toHid hb2
    have H32 := toHid h32
    clear ht hra hb2 h32
    go_wp2_with fail
    refine (same_rd w2 _ _ _ _ ys.length ys (by omega) HA.out (HR.out w2 HB2.out)).mono ?_
    rintro e w3 ⟨rfl, q, rfl⟩
    go_wp2
    go_loop [20] (fun i => ∃ j : Nat, ys.length + 1 ≤ j ∧ j ≤ N ∧ i = .int .i64 j) (fun i => N - (intOf i).toNat)
    case atStart => exact ⟨ys.length + 1, Nat.le_refl _, by omega, by go_num⟩
    case round =>
      obtain ⟨j, hj1, hj2, rfl⟩ := hrel
      by_cases hlt : j < N
      · have hcj := H32.out j hj1 hlt
        go_wp2
        go_round
        case rel => exact ⟨j + 1, by omega, by omega, by go_num⟩
        case measure => simp [intOf]; omega
      · go_wp2
        go_ret
        exact ⟨rfl, draws_below ((HB.out).trans (HB2.out.mono HB.out.size)) q⟩
  · have hb0 : -65536 ≤ a1 := hg rfl
    have hb9 : (k : Int) < a1 := hbr.resolve_left (by decide)
    clear hbr hg
    go_enter Trym.func3, Trym.ntmps3
    go_wp2_with fail
    refine (bytes_yes _ _ _ _ _ _ _ _ hlen).mono ?_
    rintro e w' ⟨rfl, rfl⟩
    go_wp2_with fail
    refine HCL.out.mono ?_
    rintro e w1 ⟨v, rfl, hF, hb1⟩
    obtain ⟨ao, rfl, hrd⟩ := hF.rd
    have HF := toHid <| hF
    have HR := toHid <| hrd
    have HB := toHid <| hb1
    clear hF hrd hb1
    go_wp2_with fail
    refine (zz_any w1 _ ys _ _ _ k _ _ HF.out HI.out).mono ?_
    rintro e w2 ⟨v', rfl, ht, hb2⟩
    obtain ⟨g, cg, N, rfl, hNc, hN1, hN2, hra, h10, h32⟩ := read_break ht
    have HA := toHid hra
    have HB2 := toHid hb2
    have H32 := toHid h32
    clear ht hra hb2 h32
    go_wp2_with fail
    refine (same_rd w2 _ _ _ _ ys.length ys (by omega) HA.out (HR.out w2 HB2.out)).mono ?_
    rintro e w3 ⟨rfl, q, rfl⟩
    go_wp2
    go_loop [20] (fun i => ∃ j : Nat, ys.length + 1 ≤ j ∧ j ≤ N ∧ i = .int .i64 j) (fun i => N - (intOf i).toNat)
    case atStart => exact ⟨ys.length + 1, Nat.le_refl _, by omega, by go_num⟩
    case round =>
      obtain ⟨j, hj1, hj2, rfl⟩ := hrel
      by_cases hlt : j < N
      · have hcj := H32.out j hj1 hlt
        go_wp2
        go_round
        case rel => exact ⟨j + 1, by omega, by omega, by go_num⟩
        case measure => simp [intOf]; omega
      · go_wp2
        go_ret
        exact ⟨rfl, draws_below ((HB.out).trans (HB2.out.mono HB.out.size)) q⟩
  · clear hbr hg
    go_enter Trym.func3, Trym.ntmps3
    go_wp2_with fail
    refine (bytes_yes _ _ _ _ _ _ _ _ hlen).mono ?_
    rintro e w' ⟨rfl, rfl⟩
    go_wp2_with fail
    refine HCL.out.mono ?_
    rintro e w1 ⟨v, rfl, hF, hb1⟩
    obtain ⟨ao, rfl, hrd⟩ := hF.rd
    have HF := toHid <| hF
    have HR := toHid <| hrd
    have HB := toHid <| hb1
    clear hF hrd hb1
    go_wp2_with fail
    refine (zz_any w1 _ ys _ _ _ ((0 : Nat) : Int) _ _ HF.out HI.out).mono ?_
    rintro e w2 ⟨v', rfl, ht, hb2⟩
    obtain ⟨g, cg, N, rfl, hNc, hN1, hN2, hra, h10, h32⟩ := read_break ht
    have HA := toHid hra
    have HB2 := toHid hb2
    have H32 := toHid h32
    clear ht hra hb2 h32
    go_wp2_with fail
    refine (same_rd w2 _ _ _ _ ys.length ys (by omega) HA.out (HR.out w2 HB2.out)).mono ?_
    rintro e w3 ⟨rfl, q, rfl⟩
    go_wp2
    go_loop [20] (fun i => ∃ j : Nat, ys.length + 1 ≤ j ∧ j ≤ N ∧ i = .int .i64 j) (fun i => N - (intOf i).toNat)
    case atStart => exact ⟨ys.length + 1, Nat.le_refl _, by omega, by go_num⟩
    case round =>
      obtain ⟨j, hj1, hj2, rfl⟩ := hrel
      by_cases hlt : j < N
      · have hcj := H32.out j hj1 hlt
        go_wp2
        go_round
        case rel => exact ⟨j + 1, by omega, by omega, by go_num⟩
        case measure => simp [intOf]; omega
      · go_wp2
        go_ret
        exact ⟨rfl, draws_below ((HB.out).trans (HB2.out.mono HB.out.size)) q⟩
  · have hb0 : -65536 ≤ a1 := hg rfl
    have hb9 : (0 : Int) < a1 := hbr.resolve_left (by decide)
    clear hbr hg
    go_enter Trym.func3, Trym.ntmps3
    go_wp2_with fail
    refine (bytes_yes _ _ _ _ _ _ _ _ hlen).mono ?_
    rintro e w' ⟨rfl, rfl⟩
    go_wp2_with fail
    refine HCL.out.mono ?_
    rintro e w1 ⟨v, rfl, hF, hb1⟩
    obtain ⟨ao, rfl, hrd⟩ := hF.rd
    have HF := toHid <| hF
    have HR := toHid <| hrd
    have HB := toHid <| hb1
    clear hF hrd hb1
    go_wp2_with fail
    refine (zz_any w1 _ ys _ _ _ ((0 : Nat) : Int) _ _ HF.out HI.out).mono ?_
    rintro e w2 ⟨v', rfl, ht, hb2⟩
    obtain ⟨g, cg, N, rfl, hNc, hN1, hN2, hra, h10, h32⟩ := read_break ht
    have HA := toHid hra
    have HB2 := toHid hb2
    have H32 := toHid h32
    clear ht hra hb2 h32
    go_wp2_with fail
    refine (same_rd w2 _ _ _ _ ys.length ys (by omega) HA.out (HR.out w2 HB2.out)).mono ?_
    rintro e w3 ⟨rfl, q, rfl⟩
    go_wp2
    go_loop [20] (fun i => ∃ j : Nat, ys.length + 1 ≤ j ∧ j ≤ N ∧ i = .int .i64 j) (fun i => N - (intOf i).toNat)
    case atStart => exact ⟨ys.length + 1, Nat.le_refl _, by omega, by go_num⟩
    case round =>
      obtain ⟨j, hj1, hj2, rfl⟩ := hrel
      by_cases hlt : j < N
      · have hcj := H32.out j hj1 hlt
        go_wp2
        go_round
        case rel => exact ⟨j + 1, by omega, by omega, by go_num⟩
        case measure => simp [intOf]; omega
      · go_wp2
        go_ret
        exact ⟨rfl, draws_below ((HB.out).trans (HB2.out.mono HB.out.size)) q⟩

set_option maxHeartbeats 400000 in
theorem law_stay (w : World) (a0 : Option Addr) (len cap : Nat) (ys : List Int) (a1 : Int) (a2 : Bool) (a4 : Int) (hlen : len ≤ 1048576) (hcl : Cloned w a0 len cap ys) (h4 : a4 ≤ 65536)
    (hg : -65536 ≤ a1) (hbr : a1 ≤ max a4 0) :
    Calls Trym.prog 3 #[.slice a0 len cap, .int .i64 a1, .bool a2, .bool true, .int .i64 a4] w fun e w' => e = .returned (.bool true) ∧ Below w.heap.size w w' := by
  obtain ⟨hys, hcl⟩ := hcl
  subst hys
  have HCL := toHid <| hcl
  clear hcl
  have HI : Hid (∀ p w1, Wr p w1 ys a1 a2 true → Calls Trym.prog 8 #[.pointer (some ⟨p, 0, none⟩), .int .i64 a4] w1 fun e w' => e = .returned (.tuple #[]) ∧ Wr p w' (ys ++ List.replicate (max a4 0 - a1).toNat 32) (max a4 0) true true ∧ Below p w1 w') :=
    fun p w1 h => indent_stay p w1 ys a1 a4 a2 h (by omega) h4 hg hbr
  obtain ⟨k, hk, hki⟩ : ∃ k : Nat, max a4 0 = (k : Int) ∧ ((a4 = (k : Int)) ∨ (a4 < 0 ∧ k = 0)) := ⟨(max a4 0).toNat, by omega, by omega⟩
  have hk1 : k ≤ 65536 := by omega
  rw [hk] at hbr HI
  clear hk
  obtain ⟨n, hn, hn1, hn2⟩ : ∃ n : Nat, ((k : Int) - a1).toNat = n ∧ (k : Int) - a1 ≤ n ∧ (n : Int) ≤ (k : Int) - a1 := ⟨((k : Int) - a1).toNat, rfl, by omega, by omega⟩
  rw [hn] at HI
  clear hn
  rcases hki with rfl | ⟨hin, rfl⟩
  · go_enter Trym.func3, Trym.ntmps3
    go_wp2_with fail
    refine (bytes_yes _ _ _ _ _ _ _ _ hlen).mono ?_
    rintro e w' ⟨rfl, rfl⟩
    go_wp2_with fail
    refine HCL.out.mono ?_
    rintro e w1 ⟨v, rfl, hF, hb1⟩
    obtain ⟨ao, rfl, hrd⟩ := hF.rd
    have HF := toHid <| hF
    have HR := toHid <| hrd
    have HB := toHid <| hb1
    clear hF hrd hb1
    go_wp2_with fail
    refine (zz_any w1 _ ys _ _ _ k _ _ HF.out HI.out).mono ?_
    rintro e w2 ⟨v', rfl, ht, hb2⟩
    rcases read_stay ht with ⟨rfl, hy0, rfl⟩ | ⟨g, cg, N, rfl, hNc, hN1, hN2, hra, h32⟩
    · have HB2 := toHid hb2
      clear ht hb2
      obtain rfl := List.eq_nil_of_length_eq_zero hy0
      clear hy0
      go_wp2_with fail
      refine (same_none w2 _ _ _ _).mono ?_
      rintro e w3 ⟨rfl, q, rfl⟩
      go_wp2
      refine wp_loop_rounds 1 ?_
      rw [rounds_succ]
      go_wp2
      go_ret
      exact ⟨rfl, draws_below ((HB.out).trans (HB2.out.mono HB.out.size)) q⟩
    · have HA := toHid hra
      have HB2 := toHid hb2
      have H32 := toHid h32
      clear ht hra hb2 h32
      go_wp2_with fail
      refine (same_rd w2 _ _ _ _ ys.length ys (by omega) HA.out (HR.out w2 HB2.out)).mono ?_
      rintro e w3 ⟨rfl, q, rfl⟩
      go_wp2
      go_loop [20] (fun i => ∃ j : Nat, ys.length ≤ j ∧ j ≤ N ∧ i = .int .i64 j) (fun i => N - (intOf i).toNat)
      case atStart => exact ⟨ys.length, Nat.le_refl _, by omega, by go_num⟩
      case round =>
        obtain ⟨j, hj1, hj2, rfl⟩ := hrel
        by_cases hlt : j < N
        · have hcj := H32.out j hj1 hlt
          go_wp2
          go_round
          case rel => exact ⟨j + 1, by omega, by omega, by go_num⟩
          case measure => simp [intOf]; omega
        · go_wp2
          go_ret
          exact ⟨rfl, draws_below ((HB.out).trans (HB2.out.mono HB.out.size)) q⟩
  · go_enter Trym.func3, Trym.ntmps3
    go_wp2_with fail
    refine (bytes_yes _ _ _ _ _ _ _ _ hlen).mono ?_
    rintro e w' ⟨rfl, rfl⟩
    go_wp2_with fail
    refine HCL.out.mono ?_
    rintro e w1 ⟨v, rfl, hF, hb1⟩
    obtain ⟨ao, rfl, hrd⟩ := hF.rd
    have HF := toHid <| hF
    have HR := toHid <| hrd
    have HB := toHid <| hb1
    clear hF hrd hb1
    go_wp2_with fail
    refine (zz_any w1 _ ys _ _ _ ((0 : Nat) : Int) _ _ HF.out HI.out).mono ?_
    rintro e w2 ⟨v', rfl, ht, hb2⟩
    rcases read_stay ht with ⟨rfl, hy0, rfl⟩ | ⟨g, cg, N, rfl, hNc, hN1, hN2, hra, h32⟩
    · have HB2 := toHid hb2
      clear ht hb2
      obtain rfl := List.eq_nil_of_length_eq_zero hy0
      clear hy0
      go_wp2_with fail
      refine (same_none w2 _ _ _ _).mono ?_
      rintro e w3 ⟨rfl, q, rfl⟩
      go_wp2
      refine wp_loop_rounds 1 ?_
      rw [rounds_succ]
      go_wp2
      go_ret
      exact ⟨rfl, draws_below ((HB.out).trans (HB2.out.mono HB.out.size)) q⟩
    · have HA := toHid hra
      have HB2 := toHid hb2
      have H32 := toHid h32
      clear ht hra hb2 h32
      go_wp2_with fail
      refine (same_rd w2 _ _ _ _ ys.length ys (by omega) HA.out (HR.out w2 HB2.out)).mono ?_
      rintro e w3 ⟨rfl, q, rfl⟩
      go_wp2
      go_loop [20] (fun i => ∃ j : Nat, ys.length ≤ j ∧ j ≤ N ∧ i = .int .i64 j) (fun i => N - (intOf i).toNat)
      case atStart => exact ⟨ys.length, Nat.le_refl _, by omega, by go_num⟩
      case round =>
        obtain ⟨j, hj1, hj2, rfl⟩ := hrel
        by_cases hlt : j < N
        · have hcj := H32.out j hj1 hlt
          go_wp2
          go_round
          case rel => exact ⟨j + 1, by omega, by omega, by go_num⟩
          case measure => simp [intOf]; omega
        · go_wp2
          go_ret
          exact ⟨rfl, draws_below ((HB.out).trans (HB2.out.mono HB.out.size)) q⟩

end Go.Proofs.Qxb6603830aMods
