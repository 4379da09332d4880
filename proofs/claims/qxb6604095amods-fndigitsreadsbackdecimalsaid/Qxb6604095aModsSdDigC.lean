/-
  The walk of the scanner's digits at the line's end; and on a nil line.
-/
import Derived.Test.Qxb6604095aModsSdRead
namespace Go.Proofs.Qxb6604095aMods
open Go.RowKit

set_option maxHeartbeats 1000000 in
theorem digits_end (p g : Nat) (w : World) (zs : List Int) (ok : Bool) (hn : zs.length ≤ 10000000) (hS : Scan p w (.slice (some ⟨g, 0, none⟩) zs.length zs.length) (zs.length : Int) ok) :
    Calls Trym.prog 13 #[.pointer (some ⟨p, 0, none⟩)] w (Read p g w zs zs.length zs.length zs.length ok) := by
  have c0 := hS.c0
  have c1 := hS.c1
  have c2 := hS.c2
  have f1 := hS.fz 1
  have f2 := hS.fz 2
  have HS := toHid hS
  clear hS
  have hd : decide ((zs.length : Int) < (zs.length : Int)) = false := decide_eq_false (by omega)
  have hd' : decide (zs.length < zs.length) = false := decide_eq_false (by omega)
  have h0 : (0 : Int) ≤ (zs.length : Int) := by omega
  have HO := toHid (okOf_end zs zs.length ok)
  rcases ok with _ | _
  all_goals
    go_enter Trym.func13, Trym.ntmps13
    go_wp2
    go_quiet (fail)
    go_wp2
    refine wp_loop_rounds 1 ?_
    rw [rounds_succ]
    go_wp2
    go_quiet (fail)
    go_wp2
    go_quiet (fail)
    go_wp2
    go_ret
    refine ⟨some ⟨g, 0, none⟩, 0, by rw [Nat.sub_self]; rfl, .inl (Nat.sub_self _), ?_, ?_⟩
    · rw [HO.out]; exact ((HS.out.draws _).ok false).draws _
    · exact draws_below ((draws_below (Below.refl _ _) _).setCell (Nat.le_refl p) _) _

end Go.Proofs.Qxb6604095aMods
