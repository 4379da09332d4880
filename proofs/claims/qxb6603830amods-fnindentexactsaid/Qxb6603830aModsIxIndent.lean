/-
  The walk of the writer's indent, out of put's and lineBreak's contracts.
-/
import Derived.Test.Qxb6603830aModsIxPut
import Derived.Deep.LoopGhost
namespace Go.Proofs.Qxb6603830aMods
open Go.RowKit

theorem rep_snoc (zs : List Int) (n : Nat) (c : Int) : (zs ++ List.replicate n c) ++ [c] = zs ++ List.replicate (n + 1) c := by
  rw [List.append_assoc, ← List.replicate_succ']

/-- The relation of indent's loop: 'g' spaces are still to come of 'n', the column will end at k. -/
def Pad (p : Nat) (w0 : World) (zs : List Int) (k : Int) (n : Nat) (sp ind : Bool) (g : Nat) (w : World) : Prop :=
  g ≤ n ∧ Wr p w (zs ++ List.replicate (n - g) 32) (k - g) sp ind ∧ Below p w0 w

theorem Pad.next {p : Nat} {w0 w w' : World} {zs : List Int} {k : Int} {n : Nat} {sp ind : Bool} {g : Nat} (h : Pad p w0 zs k n sp ind (g + 1) w)
    (h2 : Wr p w' ((zs ++ List.replicate (n - (g + 1)) 32) ++ [32]) (k - ((g + 1 : Nat) : Int) + 1) sp ind ∧ Below p w w') : Pad p w0 zs k n sp ind g w' := by
  obtain ⟨hg, _, hb⟩ := h
  refine ⟨by omega, ?_, hb.trans h2.2⟩
  have e1 : (zs ++ List.replicate (n - (g + 1)) 32) ++ [32] = zs ++ List.replicate (n - g) (32 : Int) := by
    rw [rep_snoc]; congr 2; omega
  have e2 : k - ((g + 1 : Nat) : Int) + 1 = k - (g : Int) := by omega
  rw [← e1, ← e2]
  exact h2.1

set_option maxHeartbeats 400000 in
theorem indent_break (p : Nat) (w : World) (zs : List Int) (col i : Int) (sp ind : Bool) (h : Wr p w zs col sp ind) (hlen : zs.length ≤ 100000000) (hi : i ≤ 65536)
    (hbr : ind = false ∨ max i 0 < col) :
    Calls Trym.prog 8 #[.pointer (some ⟨p, 0, none⟩), .int .i64 i] w fun e w' => e = .returned (.tuple #[]) ∧ Wr p w' (zs ++ [10] ++ List.replicate (max i 0).toNat 32) (max i 0) true true ∧ Below p w w' := by
  have c1 := h.c1
  have c3 := h.c3
  have H : Hid (Wr p w zs col sp ind) := h
  clear h
  obtain ⟨k, hk, hki⟩ : ∃ k : Nat, max i 0 = (k : Int) ∧ ((i = (k : Int)) ∨ (i < 0 ∧ k = 0)) := ⟨(max i 0).toNat, by omega, by omega⟩
  have hk1 : k ≤ 65536 := by omega
  rw [hk] at hbr ⊢
  clear hk
  rcases hki with rfl | ⟨hin, rfl⟩ <;> rcases ind with _ | _ <;> rcases hbr with hbr | hbr
  all_goals try (exfalso; exact absurd hbr (by decide))
  · go_enter Trym.func8, Trym.ntmps8
    go_wp2_with (go_at_call 9; refine (break_any p w zs col sp _ H.out (by omega)).mono ?_; rintro e w1 ⟨rfl, hW1, hb1⟩)
    go_loopg [] k (fun g wr => Pad p w (zs ++ [10]) (k : Int) k sp false g wr)
    case atStart => exact ⟨Nat.le_refl _, by simpa using hW1, hb1⟩
    case round =>
      have q1 := hrel.2.1.c1
      have q2 := hrel.2.1.c2
      have q3 := hrel.2.1.c3
      have q4 := hrel.2.1.fz 2
      have q5 := hrel.2.1.fz 3
      rcases gk with _ | gk
      · have M := toHid <| hrel.2.1.marks
        have B := toHid <| hrel.2.2
        clear hrel
        go_wp2
        go_end0
        exact ⟨rfl, by simpa using M.out.1, B.out.trans M.out.2⟩
      · have hg := hrel.1
        have R := toHid <| hrel
        clear hrel
        go_wp2_with (go_at_call 10; refine (put_any p wr _ _ 32 sp _ R.out.2.1 (by simp; omega) (by omega) (by omega)).mono ?_; rintro e w2 ⟨rfl, hW2⟩)
        go_roundg gk
        case measure => omega
        case rel => exact Pad.next R.out hW2
  · go_enter Trym.func8, Trym.ntmps8
    go_wp2_with (go_at_call 9; refine (break_any p w zs col sp _ H.out (by omega)).mono ?_; rintro e w1 ⟨rfl, hW1, hb1⟩)
    go_loopg [] k (fun g wr => Pad p w (zs ++ [10]) (k : Int) k sp false g wr)
    case atStart => exact ⟨Nat.le_refl _, by simpa using hW1, hb1⟩
    case round =>
      have q1 := hrel.2.1.c1
      have q2 := hrel.2.1.c2
      have q3 := hrel.2.1.c3
      have q4 := hrel.2.1.fz 2
      have q5 := hrel.2.1.fz 3
      rcases gk with _ | gk
      · have M := toHid <| hrel.2.1.marks
        have B := toHid <| hrel.2.2
        clear hrel
        go_wp2
        go_end0
        exact ⟨rfl, by simpa using M.out.1, B.out.trans M.out.2⟩
      · have hg := hrel.1
        have R := toHid <| hrel
        clear hrel
        go_wp2_with (go_at_call 10; refine (put_any p wr _ _ 32 sp _ R.out.2.1 (by simp; omega) (by omega) (by omega)).mono ?_; rintro e w2 ⟨rfl, hW2⟩)
        go_roundg gk
        case measure => omega
        case rel => exact Pad.next R.out hW2
  · go_enter Trym.func8, Trym.ntmps8
    go_wp2_with (go_at_call 9; refine (break_any p w zs col sp _ H.out (by omega)).mono ?_; rintro e w1 ⟨rfl, hW1, hb1⟩)
    go_loopg [] k (fun g wr => Pad p w (zs ++ [10]) (k : Int) k sp true g wr)
    case atStart => exact ⟨Nat.le_refl _, by simpa using hW1, hb1⟩
    case round =>
      have q1 := hrel.2.1.c1
      have q2 := hrel.2.1.c2
      have q3 := hrel.2.1.c3
      have q4 := hrel.2.1.fz 2
      have q5 := hrel.2.1.fz 3
      rcases gk with _ | gk
      · have M := toHid <| hrel.2.1.marks
        have B := toHid <| hrel.2.2
        clear hrel
        go_wp2
        go_end0
        exact ⟨rfl, by simpa using M.out.1, B.out.trans M.out.2⟩
      · have hg := hrel.1
        have R := toHid <| hrel
        clear hrel
        go_wp2_with (go_at_call 10; refine (put_any p wr _ _ 32 sp _ R.out.2.1 (by simp; omega) (by omega) (by omega)).mono ?_; rintro e w2 ⟨rfl, hW2⟩)
        go_roundg gk
        case measure => omega
        case rel => exact Pad.next R.out hW2
  · go_enter Trym.func8, Trym.ntmps8
    go_wp2_with (go_at_call 9; refine (break_any p w zs col sp _ H.out (by omega)).mono ?_; rintro e w1 ⟨rfl, hW1, hb1⟩)
    go_loopg [] 0 (fun g wr => Pad p w (zs ++ [10]) (0 : Int) 0 sp false g wr)
    case atStart => exact ⟨Nat.le_refl _, by simpa using hW1, hb1⟩
    case round =>
      have q1 := hrel.2.1.c1
      have q2 := hrel.2.1.c2
      have q3 := hrel.2.1.c3
      have q4 := hrel.2.1.fz 2
      have q5 := hrel.2.1.fz 3
      rcases gk with _ | gk
      · have M := toHid <| hrel.2.1.marks
        have B := toHid <| hrel.2.2
        clear hrel
        go_wp2
        go_end0
        exact ⟨rfl, by simpa using M.out.1, B.out.trans M.out.2⟩
      · exact absurd hrel.1 (by omega)
  · go_enter Trym.func8, Trym.ntmps8
    go_wp2_with (go_at_call 9; refine (break_any p w zs col sp _ H.out (by omega)).mono ?_; rintro e w1 ⟨rfl, hW1, hb1⟩)
    go_loopg [] 0 (fun g wr => Pad p w (zs ++ [10]) (0 : Int) 0 sp false g wr)
    case atStart => exact ⟨Nat.le_refl _, by simpa using hW1, hb1⟩
    case round =>
      have q1 := hrel.2.1.c1
      have q2 := hrel.2.1.c2
      have q3 := hrel.2.1.c3
      have q4 := hrel.2.1.fz 2
      have q5 := hrel.2.1.fz 3
      rcases gk with _ | gk
      · have M := toHid <| hrel.2.1.marks
        have B := toHid <| hrel.2.2
        clear hrel
        go_wp2
        go_end0
        exact ⟨rfl, by simpa using M.out.1, B.out.trans M.out.2⟩
      · exact absurd hrel.1 (by omega)
  · go_enter Trym.func8, Trym.ntmps8
    go_wp2_with (go_at_call 9; refine (break_any p w zs col sp _ H.out (by omega)).mono ?_; rintro e w1 ⟨rfl, hW1, hb1⟩)
    go_loopg [] 0 (fun g wr => Pad p w (zs ++ [10]) (0 : Int) 0 sp true g wr)
    case atStart => exact ⟨Nat.le_refl _, by simpa using hW1, hb1⟩
    case round =>
      have q1 := hrel.2.1.c1
      have q2 := hrel.2.1.c2
      have q3 := hrel.2.1.c3
      have q4 := hrel.2.1.fz 2
      have q5 := hrel.2.1.fz 3
      rcases gk with _ | gk
      · have M := toHid <| hrel.2.1.marks
        have B := toHid <| hrel.2.2
        clear hrel
        go_wp2
        go_end0
        exact ⟨rfl, by simpa using M.out.1, B.out.trans M.out.2⟩
      · exact absurd hrel.1 (by omega)

set_option maxHeartbeats 400000 in
theorem indent_stay (p : Nat) (w : World) (zs : List Int) (col i : Int) (sp : Bool) (h : Wr p w zs col sp true) (hlen : zs.length ≤ 100000000) (hi : i ≤ 65536) (hc0 : -65536 ≤ col)
    (hbr : col ≤ max i 0) :
    Calls Trym.prog 8 #[.pointer (some ⟨p, 0, none⟩), .int .i64 i] w fun e w' => e = .returned (.tuple #[]) ∧ Wr p w' (zs ++ List.replicate (max i 0 - col).toNat 32) (max i 0) true true ∧ Below p w w' := by
  have c1 := h.c1
  have c3 := h.c3
  have H : Hid (Wr p w zs col sp true) := h
  clear h
  obtain ⟨k, hk, hki⟩ : ∃ k : Nat, max i 0 = (k : Int) ∧ ((i = (k : Int)) ∨ (i < 0 ∧ k = 0)) := ⟨(max i 0).toNat, by omega, by omega⟩
  have hk1 : k ≤ 65536 := by omega
  rw [hk] at hbr ⊢
  clear hk
  obtain ⟨n, hn, hn1⟩ : ∃ n : Nat, ((k : Int) - col).toNat = n ∧ col + n = k := ⟨((k : Int) - col).toNat, rfl, by omega⟩
  rw [hn]
  obtain rfl : col = (k : Int) - (n : Int) := by omega
  clear hn hn1
  rcases hki with rfl | ⟨hin, rfl⟩
  · go_enter Trym.func8, Trym.ntmps8
    go_wp2_with fail
    go_loopg [] n (fun g wr => Pad p w zs (k : Int) n sp true g wr)
    case atStart => exact ⟨Nat.le_refl _, by simpa using H.out, Below.refl _ _⟩
    case round =>
      have q1 := hrel.2.1.c1
      have q2 := hrel.2.1.c2
      have q3 := hrel.2.1.c3
      have q4 := hrel.2.1.fz 2
      have q5 := hrel.2.1.fz 3
      rcases gk with _ | gk
      · have M := toHid <| hrel.2.1.marks
        have B := toHid <| hrel.2.2
        clear hrel
        go_wp2
        go_end0
        exact ⟨rfl, by simpa using M.out.1, B.out.trans M.out.2⟩
      · have hg := hrel.1
        have R := toHid <| hrel
        clear hrel
        go_wp2_with (go_at_call 10; refine (put_any p wr _ _ 32 sp _ R.out.2.1 (by simp; omega) (by omega) (by omega)).mono ?_; rintro e w2 ⟨rfl, hW2⟩)
        go_roundg gk
        case measure => omega
        case rel => exact Pad.next R.out hW2
  · go_enter Trym.func8, Trym.ntmps8
    go_wp2_with fail
    go_loopg [] n (fun g wr => Pad p w zs ((0 : Nat) : Int) n sp true g wr)
    case atStart => exact ⟨Nat.le_refl _, by simpa using H.out, Below.refl _ _⟩
    case round =>
      have q1 := hrel.2.1.c1
      have q2 := hrel.2.1.c2
      have q3 := hrel.2.1.c3
      have q4 := hrel.2.1.fz 2
      have q5 := hrel.2.1.fz 3
      rcases gk with _ | gk
      · have M := toHid <| hrel.2.1.marks
        have B := toHid <| hrel.2.2
        clear hrel
        go_wp2
        go_end0
        exact ⟨rfl, by simpa using M.out.1, B.out.trans M.out.2⟩
      · have hg := hrel.1
        have R := toHid <| hrel
        clear hrel
        go_wp2_with (go_at_call 10; refine (put_any p wr _ _ 32 sp _ R.out.2.1 (by simp; omega) (by omega) (by omega)).mono ?_; rintro e w2 ⟨rfl, hW2⟩)
        go_roundg gk
        case measure => omega
        case rel => exact Pad.next R.out hW2

end Go.Proofs.Qxb6603830aMods
