/-
  The first law, out of the contracts.
-/
import Derived.Test.Qxb6604095aModsSdScan
import Derived.Test.Qxb6604095aModsSdJson
namespace Go.Proofs.Qxb6604095aMods
open Go.RowKit

theorem bytes_yes (w : World) (a0 : Option Addr) (len cap : Nat) (a1 : Int) (a2 : Bool) (h : len ≤ 1048576) :
    Calls Trym.prog 5 #[.slice a0 len cap, .int .i64 a1, .bool a2] w fun e w' => e = .returned (.bool true) ∧ w = w' := by
  go_enter Trym.func5, Trym.ntmps5
  go_wp2
  go_ret
  exact ⟨rfl, rfl⟩

theorem bytes_no (w : World) (a0 : Option Addr) (len cap : Nat) (a1 : Int) (a2 : Bool) (h : 1048576 < len) :
    Calls Trym.prog 5 #[.slice a0 len cap, .int .i64 a1, .bool a2] w fun e w' => e = .returned (.bool false) ∧ w = w' := by
  go_enter Trym.func5, Trym.ntmps5
  go_wp2
  go_ret
  exact ⟨rfl, rfl⟩

theorem Full.rd {w : World} {v : Value} {zs : List Int} (h : Full w v zs) : ∃ ao, v = .slice ao zs.length zs.length ∧ ∀ w', Below w.heap.size w w' → Rd w' ao zs.length zs := by
  rcases h with ⟨rfl, rfl⟩ | ⟨g, rfl, hg, hc⟩
  · exact ⟨none, rfl, fun _ _ => .inl rfl⟩
  · exact ⟨_, rfl, fun w' hb => .inr ⟨g, rfl, fun j hj => (hb.cell (p := ⟨g, j, none⟩) hg).trans (hc j hj)⟩⟩

/-- What the copy leaves. -/
def Cloned (w : World) (a0 : Option Addr) (len cap : Nat) (ys : List Int) : Prop :=
  ys.length = len ∧ Calls Trym.prog 6 #[.slice a0 len cap] w fun e w' => ∃ v, e = .returned v ∧ Full w' v ys ∧ Below w.heap.size w w'

theorem zz_run (w : World) (v : Value) (zs : List Int) (a s m : Nat) (ok : Bool) (hn : zs.length ≤ 10000000) (hF : Full w v zs) (hr : Run zs a s (a + m)) :
    Calls Trym.prog 7 #[v, .int .i64 (a : Int), .bool ok] w fun r w' => ∃ oa co, r = .returned (.tuple #[.slice oa m co, .int .i64 ((a + m : Nat) : Int), .bool (ok && okOf zs s (a + m))]) ∧ RdAt w' oa m a zs ∧ Below w.heap.size w w' := by
  have h := zz_scan w v zs a s (a + m) ok hn hF hr
  rw [Nat.add_sub_cancel_left] at h
  exact h

theorem json_of (w : World) (oa : Option Addr) (cx : Nat) (zs : List Int) (a s m : Nat) (hn : zs.length ≤ 10000000) (hr : Run zs a s (a + m)) (hR : RdAt w oa m a zs) :
    Calls Trym.prog 9 #[.slice oa m cx] w fun r w' => r = .returned (.bool (okOf zs s (a + m))) ∧ w = w' := by
  have h := json_run w oa cx zs a s (a + m) hn hr (by rw [Nat.add_sub_cancel_left]; exact hR)
  rw [Nat.add_sub_cancel_left] at h
  exact h

theorem RdAt.draws {w : World} {oa : Option Addr} {m o : Nat} {zs : List Int} (h : RdAt w oa m o zs) (q : Nat) : RdAt (w.drewN q) oa m o zs := h

set_option maxHeartbeats 1000000 in
theorem law_sign (w : World) (a0 : Option Addr) (cap : Nat) (ys : List Int) (a m : Nat) (ok : Bool) (hlen : ys.length ≤ 1048576) (hcl : Cloned w a0 ys.length cap ys) (hr : Run ys a (a + 1) (a + m)) (ha : a < ys.length) (h45 : ys.getD a 0 = 45) :
    Calls Trym.prog 3 #[.slice a0 ys.length cap, .int .i64 (a : Int), .bool ok] w fun e w' => e = .returned (.bool true) ∧ Below w.heap.size w w' := by
  have hm1 : 1 ≤ m := by have := hr.se; omega
  have H45 := toHid h45
  clear h45
  have HCL := toHid hcl.2
  have HR := toHid hr
  have hmn : a + m ≤ ys.length := hr.en
  clear hcl hr
  go_enter Trym.func3, Trym.ntmps3
  go_wp2_with fail
  refine (bytes_yes _ _ _ _ _ _ hlen).mono ?_
  rintro e w' ⟨rfl, rfl⟩
  go_wp2_with fail
  refine HCL.out.mono ?_
  rintro e w1 ⟨v, rfl, hF, hb1⟩
  obtain ⟨la, rfl, hrd⟩ := hF.rd
  have HF := toHid hF
  have HB := toHid hb1
  have HL := toHid hrd
  clear hF hb1 hrd
  go_wp2_with fail
  refine (zz_run w1 _ ys a _ m ok (by omega) HF.out HR.out).mono ?_
  rintro e w2 ⟨oa, co, rfl, hout, hb2⟩
  obtain ⟨ok2, hok2⟩ : ∃ b, (ok && okOf ys (a + 1) (a + m)) = b := ⟨_, rfl⟩
  rw [hok2]
  have HK := toHid hok2
  have HO := toHid hout
  have h53 : ((m : Int) != (a : Int) + (m : Int) - (a : Int)) = false := by rw [bne_eq_false_iff_eq]; omega
  obtain ⟨g, rfl, hco⟩ := hout.resolve_left (by omega)
  obtain ⟨gl, rfl, hcl⟩ := (HL.out w2 hb2).resolve_left (by omega)
  have HB2 := toHid hb2
  have HCO := toHid hco
  have HCL2 := toHid hcl
  clear hb2 hco hcl hout hok2
  go_wp2_with fail
  go_loopw [10] (fun i wr => ∃ j q : Nat, j ≤ m ∧ i = .int .i64 j ∧ wr = w2.drewN q) (fun i _ => m - (intOf i).toNat)
  case atStart => exact ⟨0, 0, Nat.zero_le _, rfl, rfl⟩
  case round =>
    obtain ⟨j, q, hj, rfl, rfl⟩ := hrel
    by_cases hlt : j < m
    · obtain ⟨c, k1, k2⟩ : ∃ c : Int, w2.cell? ⟨g, a + j, none⟩ = some (.int .u8 c) ∧ w2.cell? ⟨gl, a + j, none⟩ = some (.int .u8 c) := ⟨_, HCO.out (a + j) (by omega) (by omega), HCL2.out (a + j) (by omega)⟩
      have i0 : (0 : Int) ≤ (j : Int) := by omega
      have i1 : (j : Int) < (m : Int) := by omega
      have i2 : (0 : Int) ≤ (a : Int) + (j : Int) := by omega
      have i3 : (a : Int) + (j : Int) < (ys.length : Int) := by omega
      go_wp2
      go_quiet (fail)
      go_wp2
      go_roundw
      case rel => exact ⟨j + 1, _, by omega, by go_num, rfl⟩
      case measure => simp [intOf]; omega
    · have k45 : w2.cell? ⟨gl, a, none⟩ = some (.int .u8 45) := by rw [HCL2.out a ha, H45.out]
      have o45 : w2.cell? ⟨g, a, none⟩ = some (.int .u8 45) := by rw [HCO.out a (Nat.le_refl _) (by omega), H45.out]
      have i1 : (a : Int) < (ys.length : Int) := by omega
      have i2 : ((m : Int) == 0) = false := by rw [beq_eq_false_iff_ne]; omega
      go_wp2
      go_loop [12] (fun i => ∃ j : Nat, 1 ≤ j ∧ j ≤ m ∧ i = .int .i64 j) (fun i => m - (intOf i).toNat)
      case atStart => exact ⟨1, Nat.le_refl _, by omega, rfl⟩
      case round =>
        obtain ⟨i, hi1, hi2, rfl⟩ := hrel
        by_cases hlt2 : i < m
        · have hd := HR.out.dig (a + i) (by omega) (by omega)
          obtain ⟨c, c1, c2, ck⟩ : ∃ c : Int, 48 ≤ c ∧ c ≤ 57 ∧ w2.cell? ⟨g, a + i, none⟩ = some (.int .u8 c) := ⟨_, hd.1, hd.2, HCO.out (a + i) (by omega) (by omega)⟩
          clear hd
          go_wp2_with fail
          refine (digit_yes c _ c1 c2).mono ?_
          rintro e w3 ⟨rfl, rfl⟩
          go_wp2_with fail
          go_round
          case rel => exact ⟨i + 1, by omega, by omega, by go_num⟩
          case measure => simp [intOf]; omega
        · clear HCO
          rcases HR.out.stop with hst | ⟨hst, hb⟩ | ⟨hst, hb⟩
          · have hx : ys.length ≤ a + m := by omega
            clear hst
            rcases ok with _ | _
            · go_wp2_with fail
              go_ret
              refine ⟨ret_bool ?_, draws_below (HB.out.trans (HB2.out.mono HB.out.size)) q⟩
              have := HK.out
              simp at this
              simp [← this]
            · go_wp2_with fail
              refine (json_of _ _ _ ys a (a + 1) m (by omega) HR.out (HO.out.draws q)).mono ?_
              rintro e w4 ⟨rfl, rfl⟩
              go_wp2_with fail
              go_ret
              refine ⟨ret_bool ?_, draws_below (HB.out.trans (HB2.out.mono HB.out.size)) q⟩
              have := HK.out
              simp at this
              simp [this]
          · obtain ⟨d, hd1, kd⟩ : ∃ d : Int, (d < 48 ∨ 57 < d) ∧ w2.cell? ⟨gl, a + m, none⟩ = some (.int .u8 d) := ⟨_, .inl hb, HCL2.out (a + m) hst⟩
            have HD1 := toHid hd1
            have hx : (a : Int) + (m : Int) < (ys.length : Int) := by omega
            clear hd1 hb
            rcases ok with _ | _
            · go_wp2_with fail
              refine (digit_no d _ HD1.out).mono ?_
              rintro e w3 ⟨rfl, rfl⟩
              go_wp2_with fail
              go_ret
              refine ⟨ret_bool ?_, draws_below (HB.out.trans (HB2.out.mono HB.out.size)) q⟩
              have := HK.out
              simp at this
              simp [← this]
            · go_wp2_with fail
              refine (digit_no d _ HD1.out).mono ?_
              rintro e w3 ⟨rfl, rfl⟩
              go_wp2_with fail
              refine (json_of _ _ _ ys a (a + 1) m (by omega) HR.out (HO.out.draws q)).mono ?_
              rintro e w4 ⟨rfl, rfl⟩
              go_wp2_with fail
              go_ret
              refine ⟨ret_bool ?_, draws_below (HB.out.trans (HB2.out.mono HB.out.size)) q⟩
              have := HK.out
              simp at this
              simp [this]
          · obtain ⟨d, hd1, kd⟩ : ∃ d : Int, (d < 48 ∨ 57 < d) ∧ w2.cell? ⟨gl, a + m, none⟩ = some (.int .u8 d) := ⟨_, .inr hb, HCL2.out (a + m) hst⟩
            have HD1 := toHid hd1
            have hx : (a : Int) + (m : Int) < (ys.length : Int) := by omega
            clear hd1 hb
            rcases ok with _ | _
            · go_wp2_with fail
              refine (digit_no d _ HD1.out).mono ?_
              rintro e w3 ⟨rfl, rfl⟩
              go_wp2_with fail
              go_ret
              refine ⟨ret_bool ?_, draws_below (HB.out.trans (HB2.out.mono HB.out.size)) q⟩
              have := HK.out
              simp at this
              simp [← this]
            · go_wp2_with fail
              refine (digit_no d _ HD1.out).mono ?_
              rintro e w3 ⟨rfl, rfl⟩
              go_wp2_with fail
              refine (json_of _ _ _ ys a (a + 1) m (by omega) HR.out (HO.out.draws q)).mono ?_
              rintro e w4 ⟨rfl, rfl⟩
              go_wp2_with fail
              go_ret
              refine ⟨ret_bool ?_, draws_below (HB.out.trans (HB2.out.mono HB.out.size)) q⟩
              have := HK.out
              simp at this
              simp [this]

set_option maxHeartbeats 1000000 in
theorem law_plain (w : World) (a0 : Option Addr) (cap : Nat) (ys : List Int) (a m : Nat) (ok : Bool) (hlen : ys.length ≤ 1048576) (hcl : Cloned w a0 ys.length cap ys) (hm1 : 1 ≤ m) (hr : Run ys a a (a + m)) (ha : a < ys.length) (h45 : ys.getD a 0 ≠ 45) :
    Calls Trym.prog 3 #[.slice a0 ys.length cap, .int .i64 (a : Int), .bool ok] w fun e w' => e = .returned (.bool true) ∧ Below w.heap.size w w' := by
  have H45 := toHid h45
  clear h45
  have HCL := toHid hcl.2
  have HR := toHid hr
  have hmn : a + m ≤ ys.length := hr.en
  clear hcl hr
  go_enter Trym.func3, Trym.ntmps3
  go_wp2_with fail
  refine (bytes_yes _ _ _ _ _ _ hlen).mono ?_
  rintro e w' ⟨rfl, rfl⟩
  go_wp2_with fail
  refine HCL.out.mono ?_
  rintro e w1 ⟨v, rfl, hF, hb1⟩
  obtain ⟨la, rfl, hrd⟩ := hF.rd
  have HF := toHid hF
  have HB := toHid hb1
  have HL := toHid hrd
  clear hF hb1 hrd
  go_wp2_with fail
  refine (zz_run w1 _ ys a _ m ok (by omega) HF.out HR.out).mono ?_
  rintro e w2 ⟨oa, co, rfl, hout, hb2⟩
  obtain ⟨ok2, hok2⟩ : ∃ b, (ok && okOf ys (a) (a + m)) = b := ⟨_, rfl⟩
  rw [hok2]
  have HK := toHid hok2
  have HO := toHid hout
  have h53 : ((m : Int) != (a : Int) + (m : Int) - (a : Int)) = false := by rw [bne_eq_false_iff_eq]; omega
  obtain ⟨g, rfl, hco⟩ := hout.resolve_left (by omega)
  obtain ⟨gl, rfl, hcl⟩ := (HL.out w2 hb2).resolve_left (by omega)
  have HB2 := toHid hb2
  have HCO := toHid hco
  have HCL2 := toHid hcl
  clear hb2 hco hcl hout hok2
  go_wp2_with fail
  go_loopw [10] (fun i wr => ∃ j q : Nat, j ≤ m ∧ i = .int .i64 j ∧ wr = w2.drewN q) (fun i _ => m - (intOf i).toNat)
  case atStart => exact ⟨0, 0, Nat.zero_le _, rfl, rfl⟩
  case round =>
    obtain ⟨j, q, hj, rfl, rfl⟩ := hrel
    by_cases hlt : j < m
    · obtain ⟨c, k1, k2⟩ : ∃ c : Int, w2.cell? ⟨g, a + j, none⟩ = some (.int .u8 c) ∧ w2.cell? ⟨gl, a + j, none⟩ = some (.int .u8 c) := ⟨_, HCO.out (a + j) (by omega) (by omega), HCL2.out (a + j) (by omega)⟩
      have i0 : (0 : Int) ≤ (j : Int) := by omega
      have i1 : (j : Int) < (m : Int) := by omega
      have i2 : (0 : Int) ≤ (a : Int) + (j : Int) := by omega
      have i3 : (a : Int) + (j : Int) < (ys.length : Int) := by omega
      go_wp2
      go_quiet (fail)
      go_wp2
      go_roundw
      case rel => exact ⟨j + 1, _, by omega, by go_num, rfl⟩
      case measure => simp [intOf]; omega
    · obtain ⟨d, n45, k45⟩ : ∃ d : Int, (d == 45) = false ∧ w2.cell? ⟨gl, a, none⟩ = some (.int .u8 d) := ⟨_, beq_eq_false_iff_ne.2 H45.out, HCL2.out a ha⟩
      have i1 : (a : Int) < (ys.length : Int) := by omega
      go_wp2
      go_loop [12] (fun i => ∃ j : Nat, 0 ≤ j ∧ j ≤ m ∧ i = .int .i64 j) (fun i => m - (intOf i).toNat)
      case atStart => exact ⟨0, Nat.le_refl _, by omega, rfl⟩
      case round =>
        obtain ⟨i, hi1, hi2, rfl⟩ := hrel
        by_cases hlt2 : i < m
        · have hd := HR.out.dig (a + i) (by omega) (by omega)
          obtain ⟨c, c1, c2, ck⟩ : ∃ c : Int, 48 ≤ c ∧ c ≤ 57 ∧ w2.cell? ⟨g, a + i, none⟩ = some (.int .u8 c) := ⟨_, hd.1, hd.2, HCO.out (a + i) (by omega) (by omega)⟩
          clear hd
          go_wp2_with fail
          refine (digit_yes c _ c1 c2).mono ?_
          rintro e w3 ⟨rfl, rfl⟩
          go_wp2_with fail
          go_round
          case rel => exact ⟨i + 1, by omega, by omega, by go_num⟩
          case measure => simp [intOf]; omega
        · clear HCO
          rcases HR.out.stop with hst | ⟨hst, hb⟩ | ⟨hst, hb⟩
          · have hx : ys.length ≤ a + m := by omega
            clear hst
            rcases ok with _ | _
            · go_wp2_with fail
              go_ret
              refine ⟨ret_bool ?_, draws_below (HB.out.trans (HB2.out.mono HB.out.size)) q⟩
              have := HK.out
              simp at this
              simp [← this]
            · go_wp2_with fail
              refine (json_of _ _ _ ys a (a) m (by omega) HR.out (HO.out.draws q)).mono ?_
              rintro e w4 ⟨rfl, rfl⟩
              go_wp2_with fail
              go_ret
              refine ⟨ret_bool ?_, draws_below (HB.out.trans (HB2.out.mono HB.out.size)) q⟩
              have := HK.out
              simp at this
              simp [this]
          · obtain ⟨d, hd1, kd⟩ : ∃ d : Int, (d < 48 ∨ 57 < d) ∧ w2.cell? ⟨gl, a + m, none⟩ = some (.int .u8 d) := ⟨_, .inl hb, HCL2.out (a + m) hst⟩
            have HD1 := toHid hd1
            have hx : (a : Int) + (m : Int) < (ys.length : Int) := by omega
            clear hd1 hb
            rcases ok with _ | _
            · go_wp2_with fail
              refine (digit_no d _ HD1.out).mono ?_
              rintro e w3 ⟨rfl, rfl⟩
              go_wp2_with fail
              go_ret
              refine ⟨ret_bool ?_, draws_below (HB.out.trans (HB2.out.mono HB.out.size)) q⟩
              have := HK.out
              simp at this
              simp [← this]
            · go_wp2_with fail
              refine (digit_no d _ HD1.out).mono ?_
              rintro e w3 ⟨rfl, rfl⟩
              go_wp2_with fail
              refine (json_of _ _ _ ys a (a) m (by omega) HR.out (HO.out.draws q)).mono ?_
              rintro e w4 ⟨rfl, rfl⟩
              go_wp2_with fail
              go_ret
              refine ⟨ret_bool ?_, draws_below (HB.out.trans (HB2.out.mono HB.out.size)) q⟩
              have := HK.out
              simp at this
              simp [this]
          · obtain ⟨d, hd1, kd⟩ : ∃ d : Int, (d < 48 ∨ 57 < d) ∧ w2.cell? ⟨gl, a + m, none⟩ = some (.int .u8 d) := ⟨_, .inr hb, HCL2.out (a + m) hst⟩
            have HD1 := toHid hd1
            have hx : (a : Int) + (m : Int) < (ys.length : Int) := by omega
            clear hd1 hb
            rcases ok with _ | _
            · go_wp2_with fail
              refine (digit_no d _ HD1.out).mono ?_
              rintro e w3 ⟨rfl, rfl⟩
              go_wp2_with fail
              go_ret
              refine ⟨ret_bool ?_, draws_below (HB.out.trans (HB2.out.mono HB.out.size)) q⟩
              have := HK.out
              simp at this
              simp [← this]
            · go_wp2_with fail
              refine (digit_no d _ HD1.out).mono ?_
              rintro e w3 ⟨rfl, rfl⟩
              go_wp2_with fail
              refine (json_of _ _ _ ys a (a) m (by omega) HR.out (HO.out.draws q)).mono ?_
              rintro e w4 ⟨rfl, rfl⟩
              go_wp2_with fail
              go_ret
              refine ⟨ret_bool ?_, draws_below (HB.out.trans (HB2.out.mono HB.out.size)) q⟩
              have := HK.out
              simp at this
              simp [this]

set_option maxHeartbeats 1000000 in
theorem law_bare (w : World) (a0 : Option Addr) (cap : Nat) (ys : List Int) (a : Nat) (ok : Bool) (hlen : ys.length ≤ 1048576) (hcl : Cloned w a0 ys.length cap ys) (hr : Run ys a a (a + 0)) (ha : a < ys.length) (h45 : ys.getD a 0 ≠ 45) :
    Calls Trym.prog 3 #[.slice a0 ys.length cap, .int .i64 (a : Int), .bool ok] w fun e w' => e = .returned (.bool true) ∧ Below w.heap.size w w' := by
  have H45 := toHid h45
  clear h45
  have HCL := toHid hcl.2
  have HR := toHid hr
  have hmn : a + 0 ≤ ys.length := hr.en
  clear hcl hr
  go_enter Trym.func3, Trym.ntmps3
  go_wp2_with fail
  refine (bytes_yes _ _ _ _ _ _ hlen).mono ?_
  rintro e w' ⟨rfl, rfl⟩
  go_wp2_with fail
  refine HCL.out.mono ?_
  rintro e w1 ⟨v, rfl, hF, hb1⟩
  obtain ⟨la, rfl, hrd⟩ := hF.rd
  have HF := toHid hF
  have HB := toHid hb1
  have HL := toHid hrd
  clear hF hb1 hrd
  go_wp2_with fail
  refine (zz_run w1 _ ys a _ 0 ok (by omega) HF.out HR.out).mono ?_
  rintro e w2 ⟨oa, co, rfl, hout, hb2⟩
  obtain ⟨ok2, hok2⟩ : ∃ b, (ok && okOf ys (a) (a + 0)) = b := ⟨_, rfl⟩
  rw [hok2]
  have HK := toHid hok2
  have HO := toHid hout
  obtain ⟨gl, rfl, hcl⟩ := (HL.out w2 hb2).resolve_left (by omega)
  have HB2 := toHid hb2
  have HCL2 := toHid hcl
  clear hb2 hcl hout hok2
  obtain ⟨d, n45, hd1, kd⟩ : ∃ d : Int, (d == 45) = false ∧ (d < 48 ∨ 57 < d) ∧ w2.cell? ⟨gl, a, none⟩ = some (.int .u8 d) := by
    rcases HR.out.stop with hst | ⟨hst, hb⟩ | ⟨hst, hb⟩
    · exfalso; omega
    · exact ⟨_, beq_eq_false_iff_ne.2 H45.out, .inl hb, HCL2.out a hst⟩
    · exact ⟨_, beq_eq_false_iff_ne.2 H45.out, .inr hb, HCL2.out a hst⟩
  have HD1 := toHid hd1
  clear hd1
  have i1 : (a : Int) < (ys.length : Int) := by omega
  go_wp2_with fail
  refine wp_loop_rounds 1 ?_
  rw [rounds_succ]
  go_wp2_with fail
  refine wp_loop_rounds 1 ?_
  rw [rounds_succ]
  rcases ok with _ | _
  · go_wp2_with fail
    refine (digit_no _ _ HD1.out).mono ?_
    rintro e w3 ⟨rfl, rfl⟩
    go_wp2_with fail
    go_ret
    refine ⟨ret_bool ?_, HB.out.trans (HB2.out.mono HB.out.size)⟩
    have := HK.out
    simp at this
    simp [← this]
  · go_wp2_with fail
    refine (digit_no _ _ HD1.out).mono ?_
    rintro e w3 ⟨rfl, rfl⟩
    go_wp2_with fail
    refine (json_of _ _ _ ys a a 0 (by omega) HR.out HO.out).mono ?_
    rintro e w4 ⟨rfl, rfl⟩
    go_wp2_with fail
    go_ret
    refine ⟨ret_bool ?_, HB.out.trans (HB2.out.mono HB.out.size)⟩
    have := HK.out
    simp at this
    simp [this]

set_option maxHeartbeats 1000000 in
theorem law_end (w : World) (a0 : Option Addr) (cap : Nat) (ys : List Int) (ok : Bool) (hlen : ys.length ≤ 1048576) (hcl : Cloned w a0 ys.length cap ys) (hr : Run ys ys.length ys.length (ys.length + 0)) :
    Calls Trym.prog 3 #[.slice a0 ys.length cap, .int .i64 (ys.length : Int), .bool ok] w fun e w' => e = .returned (.bool true) ∧ Below w.heap.size w w' := by
  have HCL := toHid hcl.2
  have HR := toHid hr
  have hmn : ys.length + 0 ≤ ys.length := hr.en
  clear hcl hr
  go_enter Trym.func3, Trym.ntmps3
  go_wp2_with fail
  refine (bytes_yes _ _ _ _ _ _ hlen).mono ?_
  rintro e w' ⟨rfl, rfl⟩
  go_wp2_with fail
  refine HCL.out.mono ?_
  rintro e w1 ⟨v, rfl, hF, hb1⟩
  obtain ⟨la, rfl, hrd⟩ := hF.rd
  have HF := toHid hF
  have HB := toHid hb1
  have HL := toHid hrd
  clear hF hb1 hrd
  go_wp2_with fail
  refine (zz_run w1 _ ys ys.length _ 0 ok (by omega) HF.out HR.out).mono ?_
  rintro e w2 ⟨oa, co, rfl, hout, hb2⟩
  obtain ⟨ok2, hok2⟩ : ∃ b, (ok && okOf ys (ys.length) (ys.length + 0)) = b := ⟨_, rfl⟩
  rw [hok2]
  have HK := toHid hok2
  have HO := toHid hout
  have HB2 := toHid hb2
  clear hb2 hout hok2
  rcases ok with _ | _
  · go_wp2_with fail
    refine wp_loop_rounds 1 ?_
    rw [rounds_succ]
    go_wp2_with fail
    refine wp_loop_rounds 1 ?_
    rw [rounds_succ]
    go_wp2_with fail
    go_ret
    refine ⟨ret_bool ?_, HB.out.trans (HB2.out.mono HB.out.size)⟩
    have := HK.out
    simp at this
    simp [← this]
  · go_wp2_with fail
    refine wp_loop_rounds 1 ?_
    rw [rounds_succ]
    go_wp2_with fail
    refine wp_loop_rounds 1 ?_
    rw [rounds_succ]
    go_wp2_with fail
    refine (json_of _ _ _ ys ys.length ys.length 0 (by omega) HR.out HO.out).mono ?_
    rintro e w4 ⟨rfl, rfl⟩
    go_wp2_with fail
    go_ret
    refine ⟨ret_bool ?_, HB.out.trans (HB2.out.mono HB.out.size)⟩
    have := HK.out
    simp at this
    simp [this]

end Go.Proofs.Qxb6604095aMods
