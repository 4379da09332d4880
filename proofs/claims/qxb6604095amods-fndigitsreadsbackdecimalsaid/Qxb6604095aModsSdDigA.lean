/-
  The walk of the scanner's digits where the run opens with a sign.
-/
import Derived.Test.Qxb6604095aModsSdRead
namespace Go.Proofs.Qxb6604095aMods
open Go.RowKit

set_option maxHeartbeats 4000000 in
theorem digits_sign (p g : Nat) (w : World) (zs : List Int) (a e : Nat) (ok : Bool) (hn : zs.length ≤ 10000000) (hS : Scan p w (.slice (some ⟨g, 0, none⟩) zs.length zs.length) (a : Int) ok) (hg : g < p)
    (hc : ∀ j, j < zs.length → w.cell? ⟨g, j, none⟩ = some (.int .u8 (zs.getD j 0))) (ha : a < zs.length) (hm : zs.getD a 0 = 45) (hr : Run zs a (a + 1) e) :
    Calls Trym.prog 13 #[.pointer (some ⟨p, 0, none⟩)] w (Read p g w zs a (a + 1) e ok) := by
  have c0 := hS.c0
  have c1 := hS.c1
  have c2 := hS.c2
  have f1 := hS.fz 1
  have f2 := hS.fz 2
  have ca : w.cell? ⟨g, a, none⟩ = some (.int .u8 45) := by rw [hc a ha, hm]
  have hse := hr.se
  have hen := hr.en
  have HR := toHid hr
  have HC := toHid hc
  have HS := toHid hS
  clear hr hc hS hm
  have ha1 : (a : Int) < (zs.length : Int) := by omega
  have ha0 : (0 : Int) ≤ (a : Int) := by omega
  go_enter Trym.func13, Trym.ntmps13
  go_wp2
  go_quiet (fail)
  go_wp2
  go_loopg [] (e - (a + 1)) (fun gk wr => ∃ k : Nat, k + gk = e ∧ a + 1 ≤ k ∧ Scan p wr (.slice (some ⟨g, 0, none⟩) zs.length zs.length) (k : Int) ok ∧ Below p w wr)
  case atStart => exact ⟨a + 1, by omega, Nat.le_refl _, by have := (HS.out.draws nq).at ((a : Int) + 1); simpa using this, (draws_below (Below.refl _ _) nq).setCell (Nat.le_refl p) _⟩
  case round =>
    obtain ⟨k, hke, hsk, hSr, hBr⟩ := hrel
    have q0 := hSr.c0
    have q1 := hSr.c1
    have q2 := hSr.c2
    have g1 := hSr.fz 1
    have g2 := hSr.fz 2
    have SR := toHid hSr
    have BR := toHid hBr
    clear hSr hBr
    rcases gk with _ | gk
    · obtain rfl : k = e := by omega
      clear hke
      have hk0 : (0 : Int) ≤ (k : Int) := by omega
      rcases HR.out.stop with hst | ⟨hst, hb⟩ | ⟨hst, hb⟩
      · have hd : decide (k < zs.length) = false := decide_eq_false (by omega)
        have hd' : ¬ k < zs.length := by omega
        have HT := toHid hst
        clear hst
        rcases ok with _ | _
        · have HO := toHid (Bool.false_and (okOf zs (a + 1) k))
          go_wp2
          go_quiet (fail)
          go_wp2
          go_quiet (fail)
          go_wp2
          go_ret
          refine ⟨_, _, rfl, .inr rfl, ?_, ?_⟩
          · rw [HO.out]; exact ((SR.out.draws _).ok false).draws _
          · exact draws_below ((draws_below BR.out _).setCell (Nat.le_refl p) _) _
        · by_cases hlt : a + 1 < k
          · obtain ⟨c, hc0, cs⟩ : ∃ c : Int, zs.getD (a + 1) 0 = c ∧ wr.cell? ⟨g, a + 1, none⟩ = some (.int .u8 c) := ⟨_, rfl, (BR.out.cell (p := ⟨g, a + 1, none⟩) hg).trans (HC.out (a + 1) (by omega))⟩
            have hs1 : (((a : Int) + 1) : Int) < (zs.length : Int) := by omega
            have hs2 : (((a : Int) + 1) : Int) < (k : Int) := by omega
            by_cases h48 : c = 48
            · have H48 := toHid (hc0.trans h48)
              subst h48
              clear hc0
              by_cases h1 : k = a + 1 + 1
              · have HO := toHid (okOf_one (zs := zs) hlt h1)
                have ht : ((k : Int) == (((a : Int) + 1) + 1)) = true := by rw [beq_iff_eq]; omega
                clear h1
                go_wp2
                go_quiet (fail)
                go_wp2
                go_quiet (fail)
                go_wp2
                go_ret
                refine ⟨_, _, rfl, .inr rfl, ?_, ?_⟩
                · rw [HO.out]; exact ((SR.out.draws _).ok true).draws _
                · exact draws_below ((draws_below BR.out _).setCell (Nat.le_refl p) _) _
              · have HO := toHid (okOf_zero (zs := zs) H48.out h1)
                have ht : ((k : Int) == (((a : Int) + 1) + 1)) = false := by rw [beq_eq_false_iff_ne]; omega
                go_wp2
                go_quiet (fail)
                go_wp2
                go_quiet (fail)
                go_wp2
                go_ret
                refine ⟨_, _, rfl, .inr rfl, ?_, ?_⟩
                · rw [HO.out]; exact ((SR.out.draws _).ok false).draws _
                · exact draws_below ((draws_below BR.out _).setCell (Nat.le_refl p) _) _
            · have HO := toHid (okOf_many (zs := zs) (s := a + 1) hlt (by rw [hc0]; exact h48))
              have ht : (c != 48) = true := bne_iff_ne.2 h48
              clear hc0
              go_wp2
              go_quiet (fail)
              go_wp2
              go_quiet (fail)
              go_wp2
              go_ret
              refine ⟨_, _, rfl, .inr rfl, ?_, ?_⟩
              · rw [HO.out]; exact ((SR.out.draws _).ok true).draws _
              · exact draws_below ((draws_below BR.out _).setCell (Nat.le_refl p) _) _
          · have HO := toHid (okOf_none (zs := zs) (s := a + 1) hlt)
            have ht : decide (((a : Int) + 1) < (k : Int)) = false := decide_eq_false (by omega)
            have ht2 : (k : Int) ≤ ((a : Int) + 1) := by omega
            go_wp2
            go_quiet (fail)
            go_wp2
            go_quiet (fail)
            go_wp2
            go_ret
            refine ⟨_, _, rfl, .inr rfl, ?_, ?_⟩
            · rw [HO.out]; exact ((SR.out.draws _).ok false).draws _
            · exact draws_below ((draws_below BR.out _).setCell (Nat.le_refl p) _) _
      · obtain ⟨d, hd1, ck⟩ : ∃ d : Int, d < 48 ∧ wr.cell? ⟨g, k, none⟩ = some (.int .u8 d) := ⟨_, hb, (BR.out.cell (p := ⟨g, k, none⟩) hg).trans (HC.out k hst)⟩
        have hk1 : (k : Int) < (zs.length : Int) := by omega
        have hd2 : decide (48 ≤ d) = false := decide_eq_false (by omega)
        have hd3 : ¬ 48 ≤ d := by omega
        clear hb
        rcases ok with _ | _
        · have HO := toHid (Bool.false_and (okOf zs (a + 1) k))
          go_wp2
          go_quiet (fail)
          go_wp2
          go_quiet (fail)
          go_wp2
          go_ret
          refine ⟨_, _, rfl, .inr rfl, ?_, ?_⟩
          · rw [HO.out]; exact ((SR.out.draws _).ok false).draws _
          · exact draws_below ((draws_below BR.out _).setCell (Nat.le_refl p) _) _
        · by_cases hlt : a + 1 < k
          · obtain ⟨c, hc0, cs⟩ : ∃ c : Int, zs.getD (a + 1) 0 = c ∧ wr.cell? ⟨g, a + 1, none⟩ = some (.int .u8 c) := ⟨_, rfl, (BR.out.cell (p := ⟨g, a + 1, none⟩) hg).trans (HC.out (a + 1) (by omega))⟩
            have hs1 : (((a : Int) + 1) : Int) < (zs.length : Int) := by omega
            have hs2 : (((a : Int) + 1) : Int) < (k : Int) := by omega
            by_cases h48 : c = 48
            · have H48 := toHid (hc0.trans h48)
              subst h48
              clear hc0
              by_cases h1 : k = a + 1 + 1
              · have HO := toHid (okOf_one (zs := zs) hlt h1)
                have ht : ((k : Int) == (((a : Int) + 1) + 1)) = true := by rw [beq_iff_eq]; omega
                clear h1
                go_wp2
                go_quiet (fail)
                go_wp2
                go_quiet (fail)
                go_wp2
                go_ret
                refine ⟨_, _, rfl, .inr rfl, ?_, ?_⟩
                · rw [HO.out]; exact ((SR.out.draws _).ok true).draws _
                · exact draws_below ((draws_below BR.out _).setCell (Nat.le_refl p) _) _
              · have HO := toHid (okOf_zero (zs := zs) H48.out h1)
                have ht : ((k : Int) == (((a : Int) + 1) + 1)) = false := by rw [beq_eq_false_iff_ne]; omega
                go_wp2
                go_quiet (fail)
                go_wp2
                go_quiet (fail)
                go_wp2
                go_ret
                refine ⟨_, _, rfl, .inr rfl, ?_, ?_⟩
                · rw [HO.out]; exact ((SR.out.draws _).ok false).draws _
                · exact draws_below ((draws_below BR.out _).setCell (Nat.le_refl p) _) _
            · have HO := toHid (okOf_many (zs := zs) (s := a + 1) hlt (by rw [hc0]; exact h48))
              have ht : (c != 48) = true := bne_iff_ne.2 h48
              clear hc0
              go_wp2
              go_quiet (fail)
              go_wp2
              go_quiet (fail)
              go_wp2
              go_ret
              refine ⟨_, _, rfl, .inr rfl, ?_, ?_⟩
              · rw [HO.out]; exact ((SR.out.draws _).ok true).draws _
              · exact draws_below ((draws_below BR.out _).setCell (Nat.le_refl p) _) _
          · have HO := toHid (okOf_none (zs := zs) (s := a + 1) hlt)
            have ht : decide (((a : Int) + 1) < (k : Int)) = false := decide_eq_false (by omega)
            have ht2 : (k : Int) ≤ ((a : Int) + 1) := by omega
            go_wp2
            go_quiet (fail)
            go_wp2
            go_quiet (fail)
            go_wp2
            go_ret
            refine ⟨_, _, rfl, .inr rfl, ?_, ?_⟩
            · rw [HO.out]; exact ((SR.out.draws _).ok false).draws _
            · exact draws_below ((draws_below BR.out _).setCell (Nat.le_refl p) _) _
      · obtain ⟨d, hd1, ck⟩ : ∃ d : Int, 57 < d ∧ wr.cell? ⟨g, k, none⟩ = some (.int .u8 d) := ⟨_, hb, (BR.out.cell (p := ⟨g, k, none⟩) hg).trans (HC.out k hst)⟩
        have hk1 : (k : Int) < (zs.length : Int) := by omega
        have hd0 : 48 ≤ d := by omega
        have hd2 : decide (d ≤ 57) = false := decide_eq_false (by omega)
        have hd3 : ¬ d ≤ 57 := by omega
        clear hb
        rcases ok with _ | _
        · have HO := toHid (Bool.false_and (okOf zs (a + 1) k))
          go_wp2
          go_quiet (fail)
          go_wp2
          go_quiet (fail)
          go_wp2
          go_ret
          refine ⟨_, _, rfl, .inr rfl, ?_, ?_⟩
          · rw [HO.out]; exact ((SR.out.draws _).ok false).draws _
          · exact draws_below ((draws_below BR.out _).setCell (Nat.le_refl p) _) _
        · by_cases hlt : a + 1 < k
          · obtain ⟨c, hc0, cs⟩ : ∃ c : Int, zs.getD (a + 1) 0 = c ∧ wr.cell? ⟨g, a + 1, none⟩ = some (.int .u8 c) := ⟨_, rfl, (BR.out.cell (p := ⟨g, a + 1, none⟩) hg).trans (HC.out (a + 1) (by omega))⟩
            have hs1 : (((a : Int) + 1) : Int) < (zs.length : Int) := by omega
            have hs2 : (((a : Int) + 1) : Int) < (k : Int) := by omega
            by_cases h48 : c = 48
            · have H48 := toHid (hc0.trans h48)
              subst h48
              clear hc0
              by_cases h1 : k = a + 1 + 1
              · have HO := toHid (okOf_one (zs := zs) hlt h1)
                have ht : ((k : Int) == (((a : Int) + 1) + 1)) = true := by rw [beq_iff_eq]; omega
                clear h1
                go_wp2
                go_quiet (fail)
                go_wp2
                go_quiet (fail)
                go_wp2
                go_ret
                refine ⟨_, _, rfl, .inr rfl, ?_, ?_⟩
                · rw [HO.out]; exact ((SR.out.draws _).ok true).draws _
                · exact draws_below ((draws_below BR.out _).setCell (Nat.le_refl p) _) _
              · have HO := toHid (okOf_zero (zs := zs) H48.out h1)
                have ht : ((k : Int) == (((a : Int) + 1) + 1)) = false := by rw [beq_eq_false_iff_ne]; omega
                go_wp2
                go_quiet (fail)
                go_wp2
                go_quiet (fail)
                go_wp2
                go_ret
                refine ⟨_, _, rfl, .inr rfl, ?_, ?_⟩
                · rw [HO.out]; exact ((SR.out.draws _).ok false).draws _
                · exact draws_below ((draws_below BR.out _).setCell (Nat.le_refl p) _) _
            · have HO := toHid (okOf_many (zs := zs) (s := a + 1) hlt (by rw [hc0]; exact h48))
              have ht : (c != 48) = true := bne_iff_ne.2 h48
              clear hc0
              go_wp2
              go_quiet (fail)
              go_wp2
              go_quiet (fail)
              go_wp2
              go_ret
              refine ⟨_, _, rfl, .inr rfl, ?_, ?_⟩
              · rw [HO.out]; exact ((SR.out.draws _).ok true).draws _
              · exact draws_below ((draws_below BR.out _).setCell (Nat.le_refl p) _) _
          · have HO := toHid (okOf_none (zs := zs) (s := a + 1) hlt)
            have ht : decide (((a : Int) + 1) < (k : Int)) = false := decide_eq_false (by omega)
            have ht2 : (k : Int) ≤ ((a : Int) + 1) := by omega
            go_wp2
            go_quiet (fail)
            go_wp2
            go_quiet (fail)
            go_wp2
            go_ret
            refine ⟨_, _, rfl, .inr rfl, ?_, ?_⟩
            · rw [HO.out]; exact ((SR.out.draws _).ok false).draws _
            · exact draws_below ((draws_below BR.out _).setCell (Nat.le_refl p) _) _
    · have hkn : k < zs.length := by omega
      have hd := HR.out.dig k hsk (by omega)
      have hk1 : (k : Int) < (zs.length : Int) := by omega
      have hk0 : (0 : Int) ≤ (k : Int) := by omega
      obtain ⟨c, hd1, hd2, ck⟩ : ∃ c : Int, 48 ≤ c ∧ c ≤ 57 ∧ wr.cell? ⟨g, k, none⟩ = some (.int .u8 c) := ⟨_, hd.1, hd.2, (BR.out.cell (p := ⟨g, k, none⟩) hg).trans (HC.out k hkn)⟩
      have HE := toHid hke
      clear hke hd
      go_wp2
      go_quiet (fail)
      go_wp2
      go_roundg gk
      case measure => omega
      case rel => exact ⟨k + 1, by have := HE.out; omega, by omega, by have := (SR.out.draws nq).at ((k : Int) + 1); simpa using this, (draws_below BR.out nq).setCell (Nat.le_refl p) _⟩

end Go.Proofs.Qxb6604095aMods
