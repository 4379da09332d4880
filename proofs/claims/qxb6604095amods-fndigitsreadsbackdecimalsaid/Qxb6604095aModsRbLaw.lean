/-
  The second law, out of the contracts.
-/
import Derived.Test.Qxb6604095aModsSdScan
import Derived.Test.Qxb6604095aModsRbDec
namespace Go.Proofs.Qxb6604095aMods.Rb
open Go.RowKit

theorem bytes_yes (w : World) (n : Int) (a1 a2 : Option Addr) (l1 c1 l2 c2 : Nat) (h : l1 + l2 ≤ 1048576) :
    Calls Trym.prog 10 #[.int .i64 n, .slice a1 l1 c1, .slice a2 l2 c2] w fun e w' => e = .returned (.bool true) ∧ w = w' := by
  go_enter Trym.func10, Trym.ntmps10
  go_wp2
  go_ret
  exact ⟨rfl, rfl⟩

theorem bytes_no (w : World) (n : Int) (a1 a2 : Option Addr) (l1 c1 l2 c2 : Nat) (h : 1048576 < l1 + l2) :
    Calls Trym.prog 10 #[.int .i64 n, .slice a1 l1 c1, .slice a2 l2 c2] w fun e w' => e = .returned (.bool false) ∧ w = w' := by
  by_cases h1 : l1 ≤ 1048576
  · by_cases h2 : l2 ≤ 1048576
    · go_enter Trym.func10, Trym.ntmps10
      go_wp2
      go_ret
      exact ⟨rfl, rfl⟩
    · go_enter Trym.func10, Trym.ntmps10
      go_wp2
      go_ret
      exact ⟨rfl, rfl⟩
  · go_enter Trym.func10, Trym.ntmps10
    go_wp2
    go_ret
    exact ⟨rfl, rfl⟩

set_option maxHeartbeats 400000 in
theorem same_off (w : World) (ga oa gb ca cb n : Nat) (zs : List Int) (hn : n ≤ 1000000000) (ha : ∀ j, j < n → w.cell? ⟨ga, oa + j, none⟩ = some (.int .u8 (zs.getD j 0))) (hb : ∀ j, j < n → w.cell? ⟨gb, j, none⟩ = some (.int .u8 (zs.getD j 0))) :
    Calls Trym.prog 12 #[.slice (some ⟨ga, oa, none⟩) n ca, .slice (some ⟨gb, 0, none⟩) n cb] w fun e w' => e = .returned (.bool true) ∧ ∃ q, w' = w.drewN q := by
  have HA := toHid <| ha
  have HB := toHid <| hb
  clear ha hb
  go_enter Trym.func12, Trym.ntmps12
  go_wp2
  go_loopw [5] (fun i wr => ∃ k q : Nat, k ≤ n ∧ i = .int .i64 k ∧ wr = w.drewN q) (fun i _ => n - (intOf i).toNat)
  case atStart => exact ⟨0, 0, Nat.zero_le _, rfl, rfl⟩
  case round =>
    obtain ⟨k, q, hk, rfl, rfl⟩ := hrel
    by_cases hlt : k < n
    · have ha := HA.out k hlt
      have hb := HB.out k hlt
      have hi : (k : Int) < (n : Int) := by omega
      have hi0 : (0 : Int) ≤ (k : Int) := by omega
      go_wp2
      go_quiet (fail)
      go_wp2
      go_roundw
      case rel => exact ⟨k + 1, _, by omega, by go_num, rfl⟩
      case measure => simp [intOf]; omega
    · go_wp2
      go_ret
      exact ⟨rfl, q, rfl⟩

/-- A slice that the law can copy, in whatever later world. -/
def Cloneable (w : World) (a : Option Addr) (len cap : Nat) (ys : List Int) : Prop :=
  ys.length = len ∧ ∀ w1, Below w.heap.size w w1 → Calls Trym.prog 6 #[.slice a len cap] w1 fun e w' => ∃ v, e = .returned v ∧ Full w' v ys ∧ Below w1.heap.size w1 w'

/-- A full slice as a source of append. -/
theorem Full.src {w : World} {v : Value} {zs : List Int} (h : Full w v zs) : ∃ ao, v = .slice ao zs.length zs.length ∧ (ao = none → zs.length = 0 ∧ zs.length = 0) ∧
    ∀ w', Below w.heap.size w w' → ∀ ad, ao = some ad → ∀ j u, (bcells zs)[j]? = some u → w'.cell? (ad.add j) = some u := by
  rcases h with ⟨rfl, rfl⟩ | ⟨g, rfl, hg, hc⟩
  · exact ⟨none, rfl, fun _ => ⟨rfl, rfl⟩, fun _ _ ad h => by cases h⟩
  · refine ⟨_, rfl, fun h => absurd h (by simp), fun w' hb ad had j u hu => ?_⟩
    cases had
    have hj : j < zs.length := by have := (List.getElem?_eq_some_iff.1 hu).1; simpa [bcells] using this
    rw [bcells_at _ _ hj] at hu
    rw [Addr.add_lit, Nat.zero_add, hb.cell (p := ⟨g, j, none⟩) hg, hc j hj]
    exact hu

theorem getD_left (a b : List Int) (j : Nat) (h : j < a.length) : (a ++ b).getD j 0 = a.getD j 0 := by
  simp [List.getD, List.getElem?_append_left h]
theorem getD_right (a b : List Int) (j : Nat) (h : a.length ≤ j) : (a ++ b).getD j 0 = b.getD (j - a.length) 0 := by
  simp [List.getD, List.getElem?_append_right h]

/-- What digits reads at a decimal writing. -/
theorem run_of_dec (ps ds rs : List Int) (hd : Dec ds) (hr : rs.length = 0 ∨ (rs.getD 0 0 < 48 ∨ 57 < rs.getD 0 0)) :
    ∃ s, Run (ps ++ ds ++ rs) ps.length s (ps.length + ds.length) ∧ okOf (ps ++ ds ++ rs) s (ps.length + ds.length) = true := by
  obtain ⟨sg, dg, rfl, hsg, h1, h20, hdig, hlead⟩ := hd
  have hl : (ps ++ (sg ++ dg) ++ rs).length = ps.length + (sg.length + dg.length) + rs.length := by simp; omega
  have hat : ∀ j, j < dg.length → (ps ++ (sg ++ dg) ++ rs).getD (ps.length + sg.length + j) 0 = dg.getD j 0 := fun j hj => by
    rw [getD_left _ _ _ (by simp; omega), getD_right _ _ _ (by omega), getD_right _ _ _ (by omega)]
    congr 1; omega
  have hdig2 : ∀ j, ps.length + sg.length ≤ j → j < ps.length + (sg ++ dg).length → 48 ≤ (ps ++ (sg ++ dg) ++ rs).getD j 0 ∧ (ps ++ (sg ++ dg) ++ rs).getD j 0 ≤ 57 := fun j h2 h3 => by
    rw [List.length_append] at h3
    have := hat (j - (ps.length + sg.length)) (by omega)
    rw [show ps.length + sg.length + (j - (ps.length + sg.length)) = j by omega] at this
    rw [this]
    exact hdig _ (by omega)
  have hstop : ps.length + (sg ++ dg).length = (ps ++ (sg ++ dg) ++ rs).length ∨ (ps.length + (sg ++ dg).length < (ps ++ (sg ++ dg) ++ rs).length ∧ (ps ++ (sg ++ dg) ++ rs).getD (ps.length + (sg ++ dg).length) 0 < 48) ∨
      (ps.length + (sg ++ dg).length < (ps ++ (sg ++ dg) ++ rs).length ∧ 57 < (ps ++ (sg ++ dg) ++ rs).getD (ps.length + (sg ++ dg).length) 0) := by
    rw [hl, List.length_append]
    by_cases h0 : rs.length = 0
    · exact .inl (by omega)
    · have e : (ps ++ (sg ++ dg) ++ rs).getD (ps.length + (sg.length + dg.length)) 0 = rs.getD 0 0 := by
        rw [getD_right _ _ _ (by simp)]
        congr 1; simp
      rw [e]
      rcases hr.resolve_left h0 with h | h
      · exact .inr (.inl ⟨by omega, h⟩)
      · exact .inr (.inr ⟨by omega, h⟩)
  refine ⟨ps.length + sg.length, ⟨?_, by simp, by rw [hl, List.length_append]; omega, hdig2, hstop⟩, ?_⟩
  · rcases hsg with rfl | rfl
    · right; left
      have h0 := hat 0 h1
      have hd0 := hdig 0 h1
      refine ⟨by simp, by rw [hl]; omega, ?_⟩
      have e : ps.length + ([] : List Int).length + 0 = ps.length := by simp
      rw [e] at h0
      rw [h0]; omega
    · left
      refine ⟨by simp, by rw [hl]; simp; omega, ?_⟩
      rw [getD_left _ _ _ (by simp), getD_right _ _ _ (Nat.le_refl _)]
      simp
  · have h0 := hat 0 h1
    rw [Nat.add_zero] at h0
    unfold okOf
    rw [h0, decide_eq_true (by rw [List.length_append]; omega), Bool.true_and]
    by_cases h48 : dg.getD 0 0 = 48
    · have := hlead h48
      rw [decide_eq_true (by rw [List.length_append]; omega), Bool.or_true]
    · rw [bne_iff_ne.2 h48, Bool.true_or]

theorem _root_.Go.Proofs.Qxb6604095aMods.Dec.bounds {ds : List Int} (h : Dec ds) : 1 ≤ ds.length ∧ ds.length ≤ 21 := by
  obtain ⟨sg, dg, rfl, hsg, h1, h20, _⟩ := h
  rw [List.length_append]
  rcases hsg with rfl | rfl
  · simp; omega
  · simp; omega

theorem row_src {w w' : World} {g : Nat} {zs : List Int} (hg : g < w.heap.size) (hc : ∀ j, j < zs.length → w.cell? ⟨g, j, none⟩ = some (.int .u8 (zs.getD j 0))) (hb : Below w.heap.size w w') :
    ∀ j u, (bcells zs)[j]? = some u → w'.cell? ((⟨g, 0, none⟩ : Addr).add j) = some u := by
  intro j u hu
  have hj : j < zs.length := by have := (List.getElem?_eq_some_iff.1 hu).1; simpa [bcells] using this
  rw [bcells_at _ _ hj] at hu
  rw [Addr.add_lit, Nat.zero_add, hb.cell (p := ⟨g, j, none⟩) hg, hc j hj]
  exact hu

theorem full_of {w : World} {base g : Nat} (ps ds rs : List Int) (h : w.ownsRow base 5 1 (.slice (some ⟨g, 0, none⟩) (ps.length + ds.length + rs.length) (ps.length + ds.length + rs.length)) (ps.length + ds.length + rs.length) (bcells ps ++ (bcells ds ++ bcells rs))) :
    Full w (.slice (some ⟨g, 0, none⟩) (ps.length + ds.length + rs.length) (ps.length + ds.length + rs.length)) (ps ++ ds ++ rs) := by
  rw [← bcells_append, ← bcells_append, ← List.append_assoc] at h
  have e : (ps ++ ds ++ rs).length = ps.length + ds.length + rs.length := by simp [Nat.add_assoc]
  obtain ⟨a, b⟩ := own_cells h e
  exact .inr ⟨g, by rw [e], a, b⟩

theorem out_cells {w : World} {g : Nat} {ps ds rs : List Int} (h : ∀ j, ps.length ≤ j → j < ps.length + ds.length → w.cell? ⟨g, j, none⟩ = some (.int .u8 ((ps ++ ds ++ rs).getD j 0))) :
    ∀ j, j < ds.length → w.cell? ⟨g, ps.length + j, none⟩ = some (.int .u8 (ds.getD j 0)) := by
  intro j hj
  rw [h _ (by omega) (by omega), getD_left _ _ _ (by simp; omega), getD_right _ _ _ (by omega), Nat.add_sub_cancel_left]

theorem zz_run (w : World) (v : Value) (zs : List Int) (a s m : Nat) (ok : Bool) (hn : zs.length ≤ 10000000) (hF : Full w v zs) (hr : Run zs a s (a + m)) :
    Calls Trym.prog 7 #[v, .int .i64 (a : Int), .bool ok] w fun r w' => ∃ oa co, r = .returned (.tuple #[.slice oa m co, .int .i64 ((a + m : Nat) : Int), .bool (ok && okOf zs s (a + m))]) ∧ RdAt w' oa m a zs ∧ Below w.heap.size w w' := by
  have h := zz_scan w v zs a s (a + m) ok hn hF hr
  rw [Nat.add_sub_cancel_left] at h
  exact h

set_option maxHeartbeats 1000000 in
/-- The rest is empty. -/
theorem back_empty (w : World) (n : Int) (a1 a2 : Option Addr) (c1 c2 : Nat) (ps rs : List Int) (hp : ps.length ≤ 524288) (h1 : Cloneable w a1 ps.length c1 ps) (h2 : Cloneable w a2 rs.length c2 rs)
    (hdec : ∀ w, Calls Trym.prog 11 #[.int .i64 n] w (Wrote w)) (hr0 : rs.length = 0) :
    Calls Trym.prog 4 #[.int .i64 n, .slice a1 ps.length c1, .slice a2 rs.length c2] w fun e w' => e = .returned (.bool true) ∧ Below w.heap.size w w' := by
  obtain ⟨i0, hi, hz0, hz1, hz2⟩ := info_parts Trym.info5
  have H1 := toHid h1.2
  have H2 := toHid h2.2
  have HD := toHid hdec
  have hrl : rs.length ≤ 0 := by omega
  clear h1 h2 hdec hr0
  go_enter Trym.func4, Trym.ntmps4
  go_wp2_with fail
  refine (bytes_yes _ _ _ _ _ _ _ _ (by omega)).mono ?_
  rintro e w' ⟨rfl, rfl⟩
  go_wp2_with fail
  refine (H1.out w (Below.refl _ _)).mono ?_
  rintro e w1 ⟨vp, rfl, hF1, hb1⟩
  obtain ⟨pa, rfl, pn, pc⟩ := Full.src hF1
  have HPN := toHid pn
  have HPC := toHid pc
  have B1 := toHid hb1
  clear hF1 pn pc hb1
  go_wp2_with fail
  refine (H2.out w1 B1.out).mono ?_
  rintro e w2 ⟨vr, rfl, hF2, hb2⟩
  obtain ⟨ra, rfl, rn, rc⟩ := Full.src hF2
  have HRN := toHid rn
  have HRC := toHid rc
  have B2 := toHid hb2
  clear hF2 rn rc hb2
  go_wp2_with fail
  refine (HD.out w2).mono ?_
  rintro e w3 ⟨ds, gd, hdec, rfl, hgd, hcd, hb3⟩
  have hds := hdec.bounds
  have hds1 : 1 ≤ ds.length := hds.1
  have hds2 : ds.length ≤ 21 := hds.2
  have HDC := toHid hdec
  have HGD := toHid hgd
  have HCD := toHid hcd
  have B3 := toHid hb3
  clear hdec hgd hcd hb3 hds
  go_wp2_with (at_make; refine wpList_make_own _ rfl _ _ 22 rfl w3.heap.size 5 i0 (.int .u8 0) 1 Trym.underlying22 hi hz0 hz1 _ _ _ (ps.length + ds.length + rs.length) rfl rfl (by omega) (by rw [hz2]; omega) (by unfold maxLen; omega) (Nat.le_refl _) ?_)
  intro w4 hown4 hgrow4
  have B4 := toHid ((Below.refl w3.heap.size w3).grown hgrow4 (Nat.le_refl _) (fun k h => by cases h))
  have W4 := toHid hown4
  clear hown4 hgrow4
  have S12 := B1.out.size
  have S23 := B2.out.size
  have S34 := B3.out.size
  have S45 := B4.out.size
  have Q4 : Hid (Below w1.heap.size w1 w4) := toHid ((B2.out.trans (B3.out.mono S23)).trans (B4.out.mono (by omega)))
  go_wp2_with (at_builtin; refine wpList_append_fits_any _ rfl (.tmp 47) (.tmp 48) 22 rfl w3.heap.size 5 i0 1 Trym.underlying22 hi hz1 w3.heap.size 0 (ps.length + ds.length + rs.length) [] rfl W4.out pa ps.length ps.length (bcells ps) rfl (by rw [bcells_length]; omega) HPN.out (HPC.out w4 Q4.out) (ints_oneCell _ _) (by omega) ?_)
  intro w5 hown5 hgrow5
  have B5 := toHid (B4.out.grown hgrow5 S45 (fun k h => by cases h; exact Nat.le_refl _))
  have W5 := toHid hown5
  clear hown5 hgrow5
  have S5 := B5.out.size
  have C5 : Hid (∀ j u, (bcells ds)[j]? = some u → w5.cell? ((⟨gd, 0, none⟩ : Addr).add j) = some u) := toHid (row_src HGD.out HCD.out B5.out)
  go_wp2_with (at_builtin; refine wpList_append_fits _ rfl (.tmp 50) (.tmp 51) 22 rfl w3.heap.size 5 i0 1 Trym.underlying22 hi hz1 w3.heap.size ps.length (ps.length + ds.length + rs.length) (bcells ps) rfl W5.out ⟨gd, 0, none⟩ ds.length 21 (bcells ds) rfl (by rw [bcells_length]; omega) C5.out (ints_oneCell _ _) (by omega) ?_)
  intro w6 hown6 hgrow6
  have B6 := toHid (B5.out.grown hgrow6 S5 (fun k h => by cases h; exact Nat.le_refl _))
  have W6 := toHid hown6
  clear hown6 hgrow6 C5 W5
  have S6 := B6.out.size
  have Q6 : Hid (Below w2.heap.size w2 w6) := toHid (B3.out.trans (B6.out.mono S34))
  go_wp2_with (at_builtin; refine wpList_append_fits_any _ rfl (.tmp 53) (.tmp 54) 22 rfl w3.heap.size 5 i0 1 Trym.underlying22 hi hz1 w3.heap.size (ps.length + ds.length) (ps.length + ds.length + rs.length) (bcells ps ++ bcells ds) rfl W6.out ra rs.length rs.length (bcells rs) rfl (by rw [bcells_length]; omega) HRN.out (HRC.out w6 Q6.out) (ints_oneCell _ _) (by omega) ?_)
  intro w7 hown7 hgrow7
  have B7 := toHid (B6.out.grown hgrow7 S6 (fun k h => by cases h; exact Nat.le_refl _))
  have F7 := toHid (full_of ps ds rs hown7)
  clear hown7 hgrow7 W6
  have S7 := B7.out.size
  obtain ⟨s, hrun, hok⟩ := run_of_dec ps ds rs HDC.out (.inl (by omega))
  have HRUN := toHid hrun
  have HOK := toHid hok
  clear hrun hok
  go_wp2_with fail
  refine (zz_run w7 _ (ps ++ ds ++ rs) ps.length s ds.length true (by simp; omega) F7.out HRUN.out).mono ?_
  rintro e w8 ⟨oa, co, rfl, hout, hb8⟩
  rw [HOK.out]
  obtain ⟨go, rfl, hco⟩ := hout.resolve_left (by omega)
  have B8 := toHid (B7.out.trans (hb8.mono S7))
  have CO := toHid hco
  clear hout hco hb8
  go_wp2_with fail
  refine (same_off w8 go ps.length gd _ _ ds.length ds (by omega) (out_cells CO.out) (fun j hj => (B8.out.cell (p := ⟨gd, j, none⟩) HGD.out).trans (HCD.out j hj))).mono ?_
  rintro e w9 ⟨rfl, q, rfl⟩
  go_wp2_with fail
  go_ret
  exact ⟨rfl, draws_below (((B1.out.trans (B2.out.mono S12)).trans (B3.out.mono (by omega))).trans (B8.out.mono (by omega))) q⟩

set_option maxHeartbeats 1000000 in
/-- The rest does not open with a digit. -/
theorem back_some (w : World) (n : Int) (a1 : Option Addr) (b off c1 c2 : Nat) (d : Int) (ps rs : List Int) (hp : ps.length ≤ 524288) (h1 : Cloneable w a1 ps.length c1 ps) (h2 : Cloneable w (some ⟨b, off, none⟩) rs.length c2 rs)
    (hdec : ∀ w, Calls Trym.prog 11 #[.int .i64 n] w (Wrote w)) (hr1 : 1 ≤ rs.length) (hr2 : rs.length ≤ 524288) (hcd0 : w.cell? ⟨b, off, none⟩ = some (.int .u8 d)) (hrd : rs.getD 0 0 = d) (hd : d < 48 ∨ 57 < d) :
    Calls Trym.prog 4 #[.int .i64 n, .slice a1 ps.length c1, .slice (some ⟨b, off, none⟩) rs.length c2] w fun e w' => e = .returned (.bool true) ∧ Below w.heap.size w w' := by
  obtain ⟨i0, hi, hz0, hz1, hz2⟩ := info_parts Trym.info5
  have H1 := toHid h1.2
  have H2 := toHid h2.2
  have HD := toHid hdec
  have HND := toHid hd
  have HRD := toHid hrd
  have hr3 : (0 : Int) < (rs.length : Int) := by omega
  clear h1 h2 hdec hd hrd
  go_enter Trym.func4, Trym.ntmps4
  go_wp2_with fail
  refine (bytes_yes _ _ _ _ _ _ _ _ (by omega)).mono ?_
  rintro e w' ⟨rfl, rfl⟩
  go_wp2_with fail
  refine (digit_no d _ HND.out).mono ?_
  rintro e w' ⟨rfl, rfl⟩
  go_wp2_with fail
  refine (H1.out w (Below.refl _ _)).mono ?_
  rintro e w1 ⟨vp, rfl, hF1, hb1⟩
  obtain ⟨pa, rfl, pn, pc⟩ := Full.src hF1
  have HPN := toHid pn
  have HPC := toHid pc
  have B1 := toHid hb1
  clear hF1 pn pc hb1
  go_wp2_with fail
  refine (H2.out w1 B1.out).mono ?_
  rintro e w2 ⟨vr, rfl, hF2, hb2⟩
  obtain ⟨ra, rfl, rn, rc⟩ := Full.src hF2
  have HRN := toHid rn
  have HRC := toHid rc
  have B2 := toHid hb2
  clear hF2 rn rc hb2
  go_wp2_with fail
  refine (HD.out w2).mono ?_
  rintro e w3 ⟨ds, gd, hdec, rfl, hgd, hcd, hb3⟩
  have hds := hdec.bounds
  have hds1 : 1 ≤ ds.length := hds.1
  have hds2 : ds.length ≤ 21 := hds.2
  have HDC := toHid hdec
  have HGD := toHid hgd
  have HCD := toHid hcd
  have B3 := toHid hb3
  clear hdec hgd hcd hb3 hds
  go_wp2_with (at_make; refine wpList_make_own _ rfl _ _ 22 rfl w3.heap.size 5 i0 (.int .u8 0) 1 Trym.underlying22 hi hz0 hz1 _ _ _ (ps.length + ds.length + rs.length) rfl rfl (by omega) (by rw [hz2]; omega) (by unfold maxLen; omega) (Nat.le_refl _) ?_)
  intro w4 hown4 hgrow4
  have B4 := toHid ((Below.refl w3.heap.size w3).grown hgrow4 (Nat.le_refl _) (fun k h => by cases h))
  have W4 := toHid hown4
  clear hown4 hgrow4
  have S12 := B1.out.size
  have S23 := B2.out.size
  have S34 := B3.out.size
  have S45 := B4.out.size
  have Q4 : Hid (Below w1.heap.size w1 w4) := toHid ((B2.out.trans (B3.out.mono S23)).trans (B4.out.mono (by omega)))
  go_wp2_with (at_builtin; refine wpList_append_fits_any _ rfl (.tmp 47) (.tmp 48) 22 rfl w3.heap.size 5 i0 1 Trym.underlying22 hi hz1 w3.heap.size 0 (ps.length + ds.length + rs.length) [] rfl W4.out pa ps.length ps.length (bcells ps) rfl (by rw [bcells_length]; omega) HPN.out (HPC.out w4 Q4.out) (ints_oneCell _ _) (by omega) ?_)
  intro w5 hown5 hgrow5
  have B5 := toHid (B4.out.grown hgrow5 S45 (fun k h => by cases h; exact Nat.le_refl _))
  have W5 := toHid hown5
  clear hown5 hgrow5
  have S5 := B5.out.size
  have C5 : Hid (∀ j u, (bcells ds)[j]? = some u → w5.cell? ((⟨gd, 0, none⟩ : Addr).add j) = some u) := toHid (row_src HGD.out HCD.out B5.out)
  go_wp2_with (at_builtin; refine wpList_append_fits _ rfl (.tmp 50) (.tmp 51) 22 rfl w3.heap.size 5 i0 1 Trym.underlying22 hi hz1 w3.heap.size ps.length (ps.length + ds.length + rs.length) (bcells ps) rfl W5.out ⟨gd, 0, none⟩ ds.length 21 (bcells ds) rfl (by rw [bcells_length]; omega) C5.out (ints_oneCell _ _) (by omega) ?_)
  intro w6 hown6 hgrow6
  have B6 := toHid (B5.out.grown hgrow6 S5 (fun k h => by cases h; exact Nat.le_refl _))
  have W6 := toHid hown6
  clear hown6 hgrow6 C5 W5
  have S6 := B6.out.size
  have Q6 : Hid (Below w2.heap.size w2 w6) := toHid (B3.out.trans (B6.out.mono S34))
  go_wp2_with (at_builtin; refine wpList_append_fits_any _ rfl (.tmp 53) (.tmp 54) 22 rfl w3.heap.size 5 i0 1 Trym.underlying22 hi hz1 w3.heap.size (ps.length + ds.length) (ps.length + ds.length + rs.length) (bcells ps ++ bcells ds) rfl W6.out ra rs.length rs.length (bcells rs) rfl (by rw [bcells_length]; omega) HRN.out (HRC.out w6 Q6.out) (ints_oneCell _ _) (by omega) ?_)
  intro w7 hown7 hgrow7
  have B7 := toHid (B6.out.grown hgrow7 S6 (fun k h => by cases h; exact Nat.le_refl _))
  have F7 := toHid (full_of ps ds rs hown7)
  clear hown7 hgrow7 W6
  have S7 := B7.out.size
  obtain ⟨s, hrun, hok⟩ := run_of_dec ps ds rs HDC.out (.inr (by rw [HRD.out]; exact HND.out))
  have HRUN := toHid hrun
  have HOK := toHid hok
  clear hrun hok
  go_wp2_with fail
  refine (zz_run w7 _ (ps ++ ds ++ rs) ps.length s ds.length true (by simp; omega) F7.out HRUN.out).mono ?_
  rintro e w8 ⟨oa, co, rfl, hout, hb8⟩
  rw [HOK.out]
  obtain ⟨go, rfl, hco⟩ := hout.resolve_left (by omega)
  have B8 := toHid (B7.out.trans (hb8.mono S7))
  have CO := toHid hco
  clear hout hco hb8
  go_wp2_with fail
  refine (same_off w8 go ps.length gd _ _ ds.length ds (by omega) (out_cells CO.out) (fun j hj => (B8.out.cell (p := ⟨gd, j, none⟩) HGD.out).trans (HCD.out j hj))).mono ?_
  rintro e w9 ⟨rfl, q, rfl⟩
  go_wp2_with fail
  go_ret
  exact ⟨rfl, draws_below (((B1.out.trans (B2.out.mono S12)).trans (B3.out.mono (by omega))).trans (B8.out.mono (by omega))) q⟩

set_option maxHeartbeats 400000 in
/-- The rest opens with a digit: the law says true at once. -/
theorem back_digit (w : World) (n : Int) (a1 : Option Addr) (b off l1 c1 l2 c2 : Nat) (d : Int) (h1 : l1 ≤ 524288) (h2 : 1 ≤ l2) (h3 : l2 ≤ 524288) (hc : w.cell? ⟨b, off, none⟩ = some (.int .u8 d)) (hd1 : 48 ≤ d) (hd2 : d ≤ 57) :
    Calls Trym.prog 4 #[.int .i64 n, .slice a1 l1 c1, .slice (some ⟨b, off, none⟩) l2 c2] w fun e w' => e = .returned (.bool true) ∧ Below w.heap.size w w' := by
  have h4 : (0 : Int) < (l2 : Int) := by omega
  go_enter Trym.func4, Trym.ntmps4
  go_wp2_with fail
  refine (bytes_yes _ _ _ _ _ _ _ _ (by omega)).mono ?_
  rintro e w' ⟨rfl, rfl⟩
  go_wp2_with fail
  refine (digit_yes d _ hd1 hd2).mono ?_
  rintro e w' ⟨rfl, rfl⟩
  go_wp2_with fail
  go_ret
  exact ⟨rfl, Below.refl _ _⟩

set_option maxHeartbeats 400000 in
/-- Too long. -/
theorem back_long (w : World) (n : Int) (a1 a2 : Option Addr) (l1 c1 l2 c2 : Nat) (h : 524288 < l1 ∨ 524288 < l2) :
    Calls Trym.prog 4 #[.int .i64 n, .slice a1 l1 c1, .slice a2 l2 c2] w fun e w' => e = .returned (.bool true) ∧ Below w.heap.size w w' := by
  by_cases hs : l1 + l2 ≤ 1048576
  · by_cases h1 : 524288 < l1
    · clear h
      go_enter Trym.func4, Trym.ntmps4
      go_wp2_with fail
      refine (bytes_yes _ _ _ _ _ _ _ _ hs).mono ?_
      rintro e w' ⟨rfl, rfl⟩
      go_wp2_with fail
      go_ret
      exact ⟨rfl, Below.refl _ _⟩
    · have h2 : 524288 < l2 := h.resolve_left h1
      clear h
      go_enter Trym.func4, Trym.ntmps4
      go_wp2_with fail
      refine (bytes_yes _ _ _ _ _ _ _ _ hs).mono ?_
      rintro e w' ⟨rfl, rfl⟩
      go_wp2_with fail
      go_ret
      exact ⟨rfl, Below.refl _ _⟩
  · clear h
    go_enter Trym.func4, Trym.ntmps4
    go_wp2_with fail
    refine (bytes_no _ _ _ _ _ _ _ _ (by omega)).mono ?_
    rintro e w' ⟨rfl, rfl⟩
    go_wp2_with fail
    go_ret
    exact ⟨rfl, Below.refl _ _⟩

theorem dec_any (n : Int) (h0 : -9223372036854775808 ≤ n) (h1 : n ≤ 9223372036854775807) (w : World) : Calls Trym.prog 11 #[.int .i64 n] w (Wrote w) := by
  by_cases h : 0 ≤ n
  · obtain ⟨m, rfl⟩ : ∃ m : Nat, n = (m : Int) := ⟨n.toNat, by omega⟩
    exact dec_pos m w (by omega)
  · obtain ⟨m, rfl⟩ : ∃ m : Nat, n = -(m : Int) := ⟨(-n).toNat, by omega⟩
    exact dec_neg m w (by omega) (by omega)

end Go.Proofs.Qxb6604095aMods.Rb
