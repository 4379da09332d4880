/-
  What the scanner's digits leaves, and the new ok case by case.
-/
import Derived.Test.Qxb6604095aModsSdParts
import Derived.Deep.LoopGhost
namespace Go.Proofs.Qxb6604095aMods
open Go.RowKit

/-- What digits leaves: the run as a slice of the line, the place behind it, the new ok. -/
def Read (p g : Nat) (w : World) (zs : List Int) (a s e : Nat) (ok : Bool) (r : Ending) (w' : World) : Prop :=
  ∃ oa co, r = .returned (.slice oa (e - a) co) ∧ (e - a = 0 ∨ oa = some ⟨g, a, none⟩) ∧ Scan p w' (.slice (some ⟨g, 0, none⟩) zs.length zs.length) (e : Int) (ok && okOf zs s e) ∧ Below p w w'

theorem okOf_none {zs : List Int} {s e : Nat} (h : ¬ s < e) : (true && okOf zs s e) = false := by simp [okOf, h]
theorem okOf_many {zs : List Int} {s e : Nat} (h : s < e) (h2 : zs.getD s 0 ≠ 48) : (true && okOf zs s e) = true := by
  have e1 : (zs.getD s 0 != 48) = true := bne_iff_ne.2 h2
  unfold okOf; rw [decide_eq_true h, e1]; rfl
theorem okOf_one {zs : List Int} {s e : Nat} (h : s < e) (h3 : e = s + 1) : (true && okOf zs s e) = true := by
  unfold okOf; rw [decide_eq_true h, decide_eq_true h3]; simp
theorem okOf_zero {zs : List Int} {s e : Nat} (h2 : zs.getD s 0 = 48) (h3 : e ≠ s + 1) : (true && okOf zs s e) = false := by
  unfold okOf; rw [decide_eq_false h3, h2]; simp
theorem okOf_end (zs : List Int) (s : Nat) (ok : Bool) : (ok && okOf zs s s) = false := by simp [okOf]

end Go.Proofs.Qxb6604095aMods
