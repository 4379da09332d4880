/-
  The walks of the writer's put and lineBreak, and of the law's bound.
-/
import Derived.Test.Qxb6603830aModsIxParts
namespace Go.Proofs.Qxb6603830aMods
open Go.RowKit

set_option maxHeartbeats 400000 in
theorem put_any (p : Nat) (w : World) (zs : List Int) (col c : Int) (sp ind : Bool) (h : Wr p w zs col sp ind) (hlen : zs.length ≤ 1000000000) (hc0 : -1000000000 ≤ col) (hc1 : col ≤ 1000000000) :
    Calls Trym.prog 10 #[.pointer (some ⟨p, 0, none⟩), .int .u8 c] w fun e w' => e = .returned (.tuple #[]) ∧ Wr p w' (zs ++ [c]) (col + 1) sp ind ∧ Below p w w' := by
  obtain ⟨v, hv, ht⟩ := h.txt
  have f0 := h.fz 0
  have f1 := h.fz 1
  have hp := h.lt
  have k1 := h.c1
  have ht' : Hid (Txt p (w.alloc (.cells #[.int .u8 c] 5)) v zs) := ht.below (fun k _ hk => Below.heap_alloc _ _ _ hk) hp
  have H : Hid (Wr p w zs col sp ind) := h
  clear h ht
  go_enter Trym.func10, Trym.ntmps10
  go_wp2_with (at_builtin; refine wpList_append_txt _ rfl (.tmp 8) (.tmp 10) rfl p v zs c rfl ht'.out (by simp; omega) hlen ⟨w.heap.size, 0, none⟩ rfl (by simp [Addr.add]) ?_)
  intro g cap w1 hown hbel0
  have hbel : Below (p + 1) w w1 := ((Below.refl _ _).alloc (by omega) _).trans hbel0
  have k0' := (hbel.cell (p := ⟨p, 0, none⟩) (Nat.lt_succ_self p)).trans hv
  have k1' := (hbel.cell (p := ⟨p, 1, none⟩) (Nat.lt_succ_self p)).trans k1
  have e0 := (hbel.frozen (p := ⟨p, 0, none⟩) (Nat.lt_succ_self p)).trans f0
  have e1 := (hbel.frozen (p := ⟨p, 1, none⟩) (Nat.lt_succ_self p)).trans f1
  have R := toHid <| H.out.next (zs' := zs ++ [c]) (col' := col + 1) hbel (by simpa using hown)
  clear hown hbel0 hbel
  go_wp2
  go_end0
  exact ⟨rfl, R.out⟩

set_option maxHeartbeats 400000 in
theorem break_any (p : Nat) (w : World) (zs : List Int) (col : Int) (sp ind : Bool) (h : Wr p w zs col sp ind) (hlen : zs.length ≤ 1000000000) :
    Calls Trym.prog 9 #[.pointer (some ⟨p, 0, none⟩)] w fun e w' => e = .returned (.tuple #[]) ∧ Wr p w' (zs ++ [10]) 0 sp ind ∧ Below p w w' := by
  obtain ⟨v, hv, ht⟩ := h.txt
  have f0 := h.fz 0
  have f1 := h.fz 1
  have hp := h.lt
  have k1 := h.c1
  have ht' : Hid (Txt p (w.alloc (.cells #[.int .u8 10] 5)) v zs) := ht.below (fun k _ hk => Below.heap_alloc _ _ _ hk) hp
  have H : Hid (Wr p w zs col sp ind) := h
  clear h ht
  go_enter Trym.func9, Trym.ntmps9
  go_wp2_with (at_builtin; refine wpList_append_txt _ rfl (.tmp 6) (.tmp 7) rfl p v zs 10 rfl ht'.out (by simp; omega) hlen ⟨w.heap.size, 0, none⟩ rfl (by simp [Addr.add]) ?_)
  intro g cap w1 hown hbel0
  have hbel : Below (p + 1) w w1 := ((Below.refl _ _).alloc (by omega) _).trans hbel0
  have k0' := (hbel.cell (p := ⟨p, 0, none⟩) (Nat.lt_succ_self p)).trans hv
  have k1' := (hbel.cell (p := ⟨p, 1, none⟩) (Nat.lt_succ_self p)).trans k1
  have e0 := (hbel.frozen (p := ⟨p, 0, none⟩) (Nat.lt_succ_self p)).trans f0
  have e1 := (hbel.frozen (p := ⟨p, 1, none⟩) (Nat.lt_succ_self p)).trans f1
  have R := toHid <| H.out.next (zs' := zs ++ [10]) (col' := 0) hbel (by simpa using hown)
  clear hown hbel0 hbel
  go_wp2
  go_end0
  exact ⟨rfl, R.out⟩

end Go.Proofs.Qxb6603830aMods
