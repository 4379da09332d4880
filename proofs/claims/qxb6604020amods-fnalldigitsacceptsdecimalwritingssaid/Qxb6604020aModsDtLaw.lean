/-
  The law on decimal writings, out of the contracts.
-/
import Derived.Test.Qxb6604020aModsDtWalks
namespace Go.Proofs.Qxb6604020aMods
open Go.RowKit

theorem db_left (a b : ByteArray) (k : Nat) (h : k < a.size) : db (a ++ b) k = db a k := by
  have h2 : k < (a ++ b).size := by rw [ByteArray.size_append]; omega
  rw [← db_at _ _ h2, ← db_at _ _ h, ByteArray.getElem_append_left h]
theorem db_right (a b : ByteArray) (k : Nat) (h1 : a.size ≤ k) (h : k < a.size + b.size) : db (a ++ b) k = db b (k - a.size) := by
  have h2 : k < (a ++ b).size := by rw [ByteArray.size_append]; omega
  rw [← db_at _ _ h2, ← db_at b (k - a.size) (by omega), ByteArray.getElem_append_right h1]

/-- A text of digits, with something ahead or behind. -/
theorem pre_yes (t : ByteArray) (w : World) (h20 : t.size ≤ 20) (hd : ∀ k, k < t.size → db t k = true) :
    Calls Trym.prog 6 #[.string ({ data := #[48] } ++ t)] w fun e w' => e = .returned (.bool true) ∧ w = w' := by
  have h1 : (ByteArray.mk #[48]).size = 1 := rfl
  refine zz_of _ w true fun w => all_yes _ w (by rw [ByteArray.size_append, h1]; omega) (by rw [ByteArray.size_append, h1]; omega) fun k hk => ?_
  rw [ByteArray.size_append, h1] at hk
  rcases k with _ | k
  · rw [db_left _ _ _ (by rw [h1]; omega)]; rfl
  · rw [db_right _ _ _ (by rw [h1]; omega) (by rw [h1]; omega)]
    exact hd _ (by rw [h1]; omega)

theorem pre_no (c : UInt8) (t : ByteArray) (w : World) (h20 : t.size ≤ 20) (hc : dg (c.toNat : Int) = false) :
    Calls Trym.prog 6 #[.string ({ data := #[c] } ++ t)] w fun e w' => e = .returned (.bool false) ∧ w = w' := by
  have h1 : (ByteArray.mk #[c]).size = 1 := rfl
  refine zz_of _ w false fun w => all_no _ w (by rw [ByteArray.size_append, h1]; omega) 0 (by rw [ByteArray.size_append, h1]; omega) ?_
  rw [db_left _ _ _ (by rw [h1]; omega), ← db_at _ _ (by rw [h1]; omega)]
  exact hc

theorem post_no (t : ByteArray) (w : World) (h20 : t.size ≤ 20) :
    Calls Trym.prog 6 #[.string (t ++ { data := #[46, 53] })] w fun e w' => e = .returned (.bool false) ∧ w = w' := by
  have h1 : (ByteArray.mk #[46, 53]).size = 2 := rfl
  refine zz_of _ w false fun w => all_no _ w (by rw [ByteArray.size_append, h1]; omega) t.size (by rw [ByteArray.size_append, h1]; omega) ?_
  rw [db_right _ _ _ (Nat.le_refl _) (by rw [h1]; omega), Nat.sub_self]
  rfl

set_option maxHeartbeats 400000 in
theorem writ_any (n : Nat) (w : World) (hn : n ≤ 18446744073709551615) :
    Calls Trym.prog 4 #[.int .u64 (n : Int)] w fun e w' => e = .returned (.bool true) ∧ Grown w w' := by
  go_enter Trym.func4, Trym.ntmps4
  go_wp2_with fail
  refine (text_any n _ hn).mono ?_
  rintro e w1 ⟨t, rfl, h0, h20, hd, hg⟩
  have D := toHid hd
  have G := toHid hg
  clear hd hg
  go_wp2_with fail
  refine (zz_of t _ true (fun w => all_yes t w (by omega) h0 D.out)).mono ?_
  rintro e w' ⟨rfl, rfl⟩
  go_wp2_with fail
  refine (pre_yes t _ h20 D.out).mono ?_
  rintro e w' ⟨rfl, rfl⟩
  go_wp2_with fail
  refine (pre_no 45 t _ h20 (by decide)).mono ?_
  rintro e w' ⟨rfl, rfl⟩
  go_wp2_with fail
  refine (pre_no 43 t _ h20 (by decide)).mono ?_
  rintro e w' ⟨rfl, rfl⟩
  go_wp2_with fail
  refine (post_no t _ h20).mono ?_
  rintro e w' ⟨rfl, rfl⟩
  go_wp2_with fail
  go_ret
  exact ⟨rfl, G.out⟩

end Go.Proofs.Qxb6604020aMods
