/-
  The walks of the shim ZZIndent, of the copy, of the comparison, of the bound.
-/
import Derived.Test.Qxb6603830aModsIxIndent
import Derived.Deep.QuietTactic
import Derived.BigQuiet
import Derived.WalkSpells
import Derived.LoopN
namespace Go.Proofs.Qxb6603830aMods
open Go.RowKit

theorem draws_below {B : Nat} {a w : World} (h : Below B a w) (n : Nat) : Below B a (w.drewN n) := h.trans ⟨rfl, rfl, rfl, Nat.le_refl _, fun _ _ => rfl⟩

/-- A slice that is full: nil, or as many cells as its length, in one block from its head on. -/
def Full (w : World) (v : Value) (zs : List Int) : Prop :=
  (v = .slice none 0 0 ∧ zs = []) ∨ ∃ g, v = .slice (some ⟨g, 0, none⟩) zs.length zs.length ∧ g < w.heap.size ∧ ∀ j, j < zs.length → w.cell? ⟨g, j, none⟩ = some (.int .u8 (zs.getD j 0))

theorem Full.later {w w' : World} {v : Value} {zs : List Int} (h : Full w v zs) (hb : Below w.heap.size w w') : Full w' v zs := by
  rcases h with h | ⟨g, hv, hg, hc⟩
  · exact .inl h
  · exact .inr ⟨g, hv, Nat.lt_of_lt_of_le hg hb.size, fun j hj => (hb.cell (p := ⟨g, j, none⟩) hg).trans (hc j hj)⟩

theorem Full.wr {w : World} {v : Value} {zs : List Int} (h : Full w v zs) (col : Int) (sp ind : Bool) :
    Wr w.heap.size (w.alloc (.cells #[v, .int .i64 col, .bool sp, .bool ind] 30)) zs col sp ind := by
  refine ⟨by simp, ⟨v, by simp, ?_⟩, by simp, by simp, by simp, fun j => World.frozen?_alloc_at _ _ _ _ rfl⟩
  rcases h with ⟨hv, hz⟩ | ⟨g, hv, hg, hc⟩
  · subst hv; subst hz
    exact .inr (World.ownsRow_nil _ _ _ _)
  · exact .inl ⟨g, hv, hg, fun j hj => by rw [World.cell?_alloc_past _ _ _ hg]; exact hc j hj⟩

set_option maxHeartbeats 400000 in
theorem zz_any (w : World) (v : Value) (zs R : List Int) (col i k : Int) (sp ind : Bool) (hF : Full w v zs)
    (hR : ∀ p w1, Wr p w1 zs col sp ind → Calls Trym.prog 8 #[.pointer (some ⟨p, 0, none⟩), .int .i64 i] w1 fun e w' => e = .returned (.tuple #[]) ∧ Wr p w' R k true true ∧ Below p w1 w') :
    Calls Trym.prog 6 #[v, .int .i64 col, .bool sp, .bool ind, .int .i64 i] w fun e w' => ∃ v', e = .returned (.tuple #[v', .int .i64 k, .bool true, .bool true]) ∧ Txt w.heap.size w' v' R ∧ Below w.heap.size w w' := by
  have hW := toHid <| hF.wr col sp ind
  have HR := toHid <| hR
  clear hR
  rcases hF with ⟨rfl, hz⟩ | ⟨g, rfl, hg, hc⟩
  · clear hz
    go_enter Trym.func6, Trym.ntmps6
    go_wp2_with (go_at_call 8; refine (HR.out w.heap.size _ hW.out).mono ?_; rintro e w1 ⟨rfl, hW1, hb1⟩)
    obtain ⟨v', q0, ht⟩ := hW1.txt
    have q1 := hW1.c1
    have q2 := hW1.c2
    have q3 := hW1.c3
    have T := toHid <| ht
    have B : Hid (Below w.heap.size w w1) := ((Below.refl _ _).alloc (Nat.le_refl _) _).trans hb1
    clear hW1 ht hb1
    go_quiet (fail)
    go_wp2
    exact bodyPost_ret (v := .tuple #[v', .int .i64 k, .bool true, .bool true]) (by simp [results, Trym.results6, go_sem]) rfl ⟨v', rfl, T.out, draws_below B.out _⟩
  · clear hc
    go_enter Trym.func6, Trym.ntmps6
    go_wp2_with (go_at_call 8; refine (HR.out w.heap.size _ hW.out).mono ?_; rintro e w1 ⟨rfl, hW1, hb1⟩)
    obtain ⟨v', q0, ht⟩ := hW1.txt
    have q1 := hW1.c1
    have q2 := hW1.c2
    have q3 := hW1.c3
    have T := toHid <| ht
    have B : Hid (Below w.heap.size w w1) := ((Below.refl _ _).alloc (Nat.le_refl _) _).trans hb1
    clear hW1 ht hb1
    go_quiet (fail)
    go_wp2
    exact bodyPost_ret (v := .tuple #[v', .int .i64 k, .bool true, .bool true]) (by simp [results, Trym.results6, go_sem]) rfl ⟨v', rfl, T.out, draws_below B.out _⟩

set_option maxHeartbeats 400000 in
theorem bytes_yes (w : World) (a0 : Option Addr) (len cap : Nat) (a1 : Int) (a2 a3 : Bool) (a4 : Int) (h : len ≤ 1048576) :
    Calls Trym.prog 4 #[.slice a0 len cap, .int .i64 a1, .bool a2, .bool a3, .int .i64 a4] w fun e w' => e = .returned (.bool true) ∧ w = w' := by
  go_enter Trym.func4, Trym.ntmps4
  go_wp2
  go_ret
  exact ⟨rfl, rfl⟩

set_option maxHeartbeats 400000 in
theorem bytes_no (w : World) (a0 : Option Addr) (len cap : Nat) (a1 : Int) (a2 a3 : Bool) (a4 : Int) (h : 1048576 < len) :
    Calls Trym.prog 4 #[.slice a0 len cap, .int .i64 a1, .bool a2, .bool a3, .int .i64 a4] w fun e w' => e = .returned (.bool false) ∧ w = w' := by
  go_enter Trym.func4, Trym.ntmps4
  go_wp2
  go_ret
  exact ⟨rfl, rfl⟩

set_option maxHeartbeats 400000 in
theorem same_none (w : World) (ao bo : Option Addr) (ca cb : Nat) :
    Calls Trym.prog 7 #[.slice ao 0 ca, .slice bo 0 cb] w fun e w' => e = .returned (.bool true) ∧ ∃ q, w' = w.drewN q := by
  go_enter Trym.func7, Trym.ntmps7
  go_wp2
  refine wp_loop_rounds 1 ?_
  rw [rounds_succ]
  go_wp2
  go_ret
  exact ⟨rfl, 0, rfl⟩

set_option maxHeartbeats 400000 in
theorem same_any (w : World) (ga gb ca cb n : Nat) (zs : List Int) (hn : n ≤ 1000000000) (ha : ∀ j, j < n → w.cell? ⟨ga, j, none⟩ = some (.int .u8 (zs.getD j 0))) (hb : ∀ j, j < n → w.cell? ⟨gb, j, none⟩ = some (.int .u8 (zs.getD j 0))) :
    Calls Trym.prog 7 #[.slice (some ⟨ga, 0, none⟩) n ca, .slice (some ⟨gb, 0, none⟩) n cb] w fun e w' => e = .returned (.bool true) ∧ ∃ q, w' = w.drewN q := by
  have HA := toHid <| ha
  have HB := toHid <| hb
  clear ha hb
  go_enter Trym.func7, Trym.ntmps7
  go_wp2
  go_loopw [5] (fun i wr => ∃ k q : Nat, k ≤ n ∧ i = .int .i64 k ∧ wr = w.drewN q) (fun i _ => n - (intOf i).toNat)
  case atStart => exact ⟨0, 0, Nat.zero_le _, rfl, rfl⟩
  case round =>
    obtain ⟨k, q, hk, rfl, rfl⟩ := hrel
    by_cases hlt : k < n
    · have ha := HA.out k hlt
      have hb := HB.out k hlt
      have hi : (k : Int) < (n : Int) := by omega
      have hi0 : (0 : Int) ≤ (k : Int) := by omega
      go_wp2
      go_quiet (fail)
      go_wp2
      go_roundw
      case rel => exact ⟨k + 1, _, by omega, by go_num, rfl⟩
      case measure => simp [intOf]; omega
    · go_wp2
      go_ret
      exact ⟨rfl, q, rfl⟩

theorem set_take (zs : List Int) (n k : Nat) (hk : k < n) (hz : n ≤ zs.length) :
    (bcells (zs.take k ++ List.replicate (n - k) 0)).set k (.int .u8 (zs.getD k 0)) = bcells (zs.take (k + 1) ++ List.replicate (n - (k + 1)) 0) := by
  have hkz : k < zs.length := by omega
  have e : n - k = (n - (k + 1)) + 1 := by omega
  rw [List.take_succ_eq_append_getElem hkz, e, List.replicate_succ]
  simp only [bcells, List.map_append, List.map_cons, List.map_nil, List.append_assoc]
  rw [List.set_append_right _ _ (by simp; omega)]
  have e2 : k - (List.map (Value.int IntKind.u8) (zs.take k)).length = 0 := by simp; omega
  rw [e2]
  simp [List.getD, hkz]

theorem made_bcells (n : Nat) (zs : List Int) : (madeCells #[Value.int .u8 0] n).toList = bcells (zs.take 0 ++ List.replicate (n - 0) 0) := by
  rw [toList_madeCells_one]
  simp [bcells]

/-- What the copy has come to behind k rounds. -/
def Copied (w : World) (zs : List Int) (n k : Nat) (wr : World) : Prop :=
  wr.ownsRow w.heap.size 5 1 (.slice (some ⟨w.heap.size, 0, none⟩) n n) n (bcells (zs.take k ++ List.replicate (n - k) 0)) ∧ Below w.heap.size w wr

theorem Copied.start {w w1 : World} (zs : List Int) (n : Nat) (h : w1.ownsRow w.heap.size 5 1 (.slice (some ⟨w.heap.size, 0, none⟩) n n) n (madeCells #[Value.int .u8 0] n).toList) (hg : w.grownBy w1 none) : Copied w zs n 0 w1 := by
  rw [made_bcells n zs] at h
  exact ⟨h, (Below.refl _ _).grown hg (Nat.le_refl _) (fun k e => by cases e)⟩

theorem Copied.next {w wr : World} {zs : List Int} {n k : Nat} (h : Copied w zs n k wr) (hk : k < n) (hz : n ≤ zs.length) : Copied w zs n (k + 1) (wr.setCell ⟨w.heap.size, k, none⟩ (.int .u8 (zs.getD k 0))) := by
  have h1 := (h.1.stored k (.int .u8 (zs.getD k 0))).1
  rw [set_take zs n k hk hz] at h1
  exact ⟨h1, h.2.setCell (Nat.le_refl _) _⟩

theorem Copied.full {w wr : World} {zs : List Int} {n : Nat} (h : Copied w zs n n wr) (hz : n ≤ zs.length) : Full wr (.slice (some ⟨w.heap.size, 0, none⟩) n n) (zs.take n) := by
  have hl : (zs.take n).length = n := by simp; omega
  refine .inr ⟨w.heap.size, by rw [hl], (h.1.lt _ rfl).2, fun j hj => ?_⟩
  have hj' : j < n := by omega
  rw [h.1.cellAt j (by omega)]
  have e : zs.take n ++ List.replicate (n - n) 0 = zs.take n := by simp
  rw [e, bcells_at _ j hj]

/-- The copy of a slice that is not nil, its length 0: of its address nothing is known. -/
theorem clone_empty (w : World) (x : Addr) (cap : Nat) :
    Calls Trym.prog 5 #[.slice (some x) 0 cap] w fun e w' => ∃ v, e = .returned v ∧ Full w' v [] ∧ Below w.heap.size w w' := by
  obtain ⟨i0, hi, hz0, hz1, hz2⟩ := info_parts Trym.info5
  have he := @Lib.run_eql_slice_nil Trym.prog
  go_enter Trym.func5, Trym.ntmps5
  go_wp2_with (at_make; refine wpList_make_full _ rfl (.tmp 8) (.tmp 8) 22 rfl w.heap.size 5 i0 (.int .u8 0) 1 Trym.underlying22 hi hz0 hz1 _ _ _ _ 0 rfl rfl rfl rfl (by omega) (by unfold maxLen; omega) (Nat.le_refl _) ?_)
  intro w1 hown hgrow
  have C := toHid <| Copied.start (w := w) (w1 := w1) [] 0 hown hgrow
  clear hown hgrow
  go_wp2
  refine wp_loop_rounds 1 ?_
  rw [rounds_succ]
  go_wp2
  go_ret
  exact ⟨_, rfl, Copied.full C.out (Nat.le_refl _), C.out.2⟩

theorem clone_nil (w : World) :
    Calls Trym.prog 5 #[.slice none 0 0] w fun e w' => ∃ v, e = .returned v ∧ Full w' v [] ∧ Below w.heap.size w w' := by
  have he := @Lib.run_eql_slice_nil Trym.prog
  go_enter Trym.func5, Trym.ntmps5
  go_wp2
  go_ret
  exact ⟨_, rfl, .inl ⟨rfl, rfl⟩, Below.refl _ _⟩

set_option maxHeartbeats 400000 in
theorem clone_row (w : World) (b off n cap : Nat) (zs : List Int) (hn0 : 0 < n) (hn : n ≤ 1048576) (hz : n ≤ zs.length) (hc : ∀ j, j < n → w.cell? ⟨b, off + j, none⟩ = some (.int .u8 (zs.getD j 0))) :
    Calls Trym.prog 5 #[.slice (some ⟨b, off, none⟩) n cap] w fun e w' => ∃ v, e = .returned v ∧ Full w' v (zs.take n) ∧ Below w.heap.size w w' := by
  obtain ⟨i0, hi, hz0, hz1, hz2⟩ := info_parts Trym.info5
  have hb : b < w.heap.size := World.block_lt_of_cell? _ _ (hc 0 hn0)
  have HC := toHid <| hc
  clear hc
  have he := @Lib.run_eql_slice_nil Trym.prog
  go_enter Trym.func5, Trym.ntmps5
  go_wp2_with (at_make; refine wpList_make_full _ rfl (.tmp 8) (.tmp 8) 22 rfl w.heap.size 5 i0 (.int .u8 0) 1 Trym.underlying22 hi hz0 hz1 _ _ _ _ n rfl rfl rfl rfl (by rw [hz2]; omega) (by unfold maxLen; omega) (Nat.le_refl _) ?_)
  intro w1 hown hgrow
  have C := toHid <| Copied.start (w := w) (w1 := w1) zs n (by simpa using hown) hgrow
  clear hown hgrow
  go_wp2
  go_loopw [4] (fun i wr => ∃ k : Nat, k ≤ n ∧ i = .int .i64 k ∧ Copied w zs n k wr) (fun i _ => n - (intOf i).toNat)
  case atStart => exact ⟨0, Nat.zero_le _, rfl, C.out⟩
  case round =>
    obtain ⟨k, hk, rfl, hcp⟩ := hrel
    by_cases hlt : k < n
    · have ca := (hcp.2.cell (p := ⟨b, off + k, none⟩) hb).trans (HC.out k hlt)
      have cf := hcp.1.frozenAt k
      have cb : ∃ u, wr.cell? ⟨w.heap.size, k, none⟩ = some u := by
        rw [hcp.1.cellAt k (by omega)]
        exact ⟨_, bcells_at _ k (by simp; omega)⟩
      obtain ⟨u, cb⟩ := cb
      have N := toHid <| hcp.next hlt hz
      clear hcp
      go_wp2
      go_roundw
      case rel => exact ⟨k + 1, by omega, by go_num, N.out⟩
      case measure => simp [intOf]; omega
    · obtain rfl : k = n := by omega
      have N := toHid <| hcp
      clear hcp
      go_wp2
      go_ret
      exact ⟨_, rfl, Copied.full N.out hz, N.out.2⟩

end Go.Proofs.Qxb6603830aMods
