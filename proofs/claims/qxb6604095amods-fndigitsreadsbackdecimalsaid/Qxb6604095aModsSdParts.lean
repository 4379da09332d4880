/-
  What both laws of the seat share: bytes in memory, the copy, the comparison, the digit test.
-/
import Derived.Test.Qxb6604095aModsRows
import Derived.WalkKit
import Derived.ProofKit
import Derived.ArgAppend
import Derived.Deep.QuietTactic
import Derived.BigQuiet
import Derived.WalkSpells
import Derived.LoopN
namespace Go.Proofs.Qxb6604095aMods
open Go.RowKit

theorem Trym.info5 : (Trym.prog.info? 5).map (fun i => (i.zero, i.size, i.bytes)) = some (some (.int .u8 0), 1, 1) := by kernel_rfl

theorem toHid {p : Prop} (h : p) : Hid p := h

/-- Numbers as the cells of bytes. -/
def bcells (zs : List Int) : List Value := zs.map (Value.int .u8)

theorem bcells_length (zs : List Int) : (bcells zs).length = zs.length := by simp [bcells]
theorem bcells_append (a b : List Int) : bcells (a ++ b) = bcells a ++ bcells b := by simp [bcells]
theorem bcells_at (zs : List Int) (j : Nat) (h : j < zs.length) : (bcells zs)[j]? = some (.int .u8 (zs.getD j 0)) := by
  simp [bcells, List.getD, h]

theorem draws_below {B : Nat} {a w : World} (h : Below B a w) (n : Nat) : Below B a (w.drewN n) := h.trans ⟨rfl, rfl, rfl, Nat.le_refl _, fun _ _ => rfl⟩

/-- A slice that is full: nil, or as many cells as its length, in one block from its head on. -/
def Full (w : World) (v : Value) (zs : List Int) : Prop :=
  (v = .slice none 0 0 ∧ zs = []) ∨ ∃ g, v = .slice (some ⟨g, 0, none⟩) zs.length zs.length ∧ g < w.heap.size ∧ ∀ j, j < zs.length → w.cell? ⟨g, j, none⟩ = some (.int .u8 (zs.getD j 0))

theorem Full.later {w w' : World} {v : Value} {zs : List Int} (h : Full w v zs) (hb : Below w.heap.size w w') : Full w' v zs := by
  rcases h with h | ⟨g, hv, hg, hc⟩
  · exact .inl h
  · exact .inr ⟨g, hv, Nat.lt_of_lt_of_le hg hb.size, fun j hj => (hb.cell (p := ⟨g, j, none⟩) hg).trans (hc j hj)⟩

set_option maxHeartbeats 400000 in
theorem same_none (w : World) (ao bo : Option Addr) (ca cb : Nat) :
    Calls Trym.prog 12 #[.slice ao 0 ca, .slice bo 0 cb] w fun e w' => e = .returned (.bool true) ∧ ∃ q, w' = w.drewN q := by
  go_enter Trym.func12, Trym.ntmps12
  go_wp2
  refine wp_loop_rounds 1 ?_
  rw [rounds_succ]
  go_wp2
  go_ret
  exact ⟨rfl, 0, rfl⟩

set_option maxHeartbeats 400000 in
theorem same_any (w : World) (ga gb ca cb n : Nat) (zs : List Int) (hn : n ≤ 1000000000) (ha : ∀ j, j < n → w.cell? ⟨ga, j, none⟩ = some (.int .u8 (zs.getD j 0))) (hb : ∀ j, j < n → w.cell? ⟨gb, j, none⟩ = some (.int .u8 (zs.getD j 0))) :
    Calls Trym.prog 12 #[.slice (some ⟨ga, 0, none⟩) n ca, .slice (some ⟨gb, 0, none⟩) n cb] w fun e w' => e = .returned (.bool true) ∧ ∃ q, w' = w.drewN q := by
  have HA := toHid <| ha
  have HB := toHid <| hb
  clear ha hb
  go_enter Trym.func12, Trym.ntmps12
  go_wp2
  go_loopw [5] (fun i wr => ∃ k q : Nat, k ≤ n ∧ i = .int .i64 k ∧ wr = w.drewN q) (fun i _ => n - (intOf i).toNat)
  case atStart => exact ⟨0, 0, Nat.zero_le _, rfl, rfl⟩
  case round =>
    obtain ⟨k, q, hk, rfl, rfl⟩ := hrel
    by_cases hlt : k < n
    · have ha := HA.out k hlt
      have hb := HB.out k hlt
      have hi : (k : Int) < (n : Int) := by omega
      have hi0 : (0 : Int) ≤ (k : Int) := by omega
      go_wp2
      go_quiet (fail)
      go_wp2
      go_roundw
      case rel => exact ⟨k + 1, _, by omega, by go_num, rfl⟩
      case measure => simp [intOf]; omega
    · go_wp2
      go_ret
      exact ⟨rfl, q, rfl⟩

theorem set_take (zs : List Int) (n k : Nat) (hk : k < n) (hz : n ≤ zs.length) :
    (bcells (zs.take k ++ List.replicate (n - k) 0)).set k (.int .u8 (zs.getD k 0)) = bcells (zs.take (k + 1) ++ List.replicate (n - (k + 1)) 0) := by
  have hkz : k < zs.length := by omega
  have e : n - k = (n - (k + 1)) + 1 := by omega
  rw [List.take_succ_eq_append_getElem hkz, e, List.replicate_succ]
  simp only [bcells, List.map_append, List.map_cons, List.map_nil, List.append_assoc]
  rw [List.set_append_right _ _ (by simp; omega)]
  have e2 : k - (List.map (Value.int IntKind.u8) (zs.take k)).length = 0 := by simp; omega
  rw [e2]
  simp [List.getD, hkz]

theorem made_bcells (n : Nat) (zs : List Int) : (madeCells #[Value.int .u8 0] n).toList = bcells (zs.take 0 ++ List.replicate (n - 0) 0) := by
  rw [toList_madeCells_one]
  simp [bcells]

/-- What the copy has come to behind k rounds. -/
def Copied (w : World) (zs : List Int) (n k : Nat) (wr : World) : Prop :=
  wr.ownsRow w.heap.size 5 1 (.slice (some ⟨w.heap.size, 0, none⟩) n n) n (bcells (zs.take k ++ List.replicate (n - k) 0)) ∧ Below w.heap.size w wr

theorem Copied.start {w w1 : World} (zs : List Int) (n : Nat) (h : w1.ownsRow w.heap.size 5 1 (.slice (some ⟨w.heap.size, 0, none⟩) n n) n (madeCells #[Value.int .u8 0] n).toList) (hg : w.grownBy w1 none) : Copied w zs n 0 w1 := by
  rw [made_bcells n zs] at h
  exact ⟨h, (Below.refl _ _).grown hg (Nat.le_refl _) (fun k e => by cases e)⟩

theorem Copied.next {w wr : World} {zs : List Int} {n k : Nat} (h : Copied w zs n k wr) (hk : k < n) (hz : n ≤ zs.length) : Copied w zs n (k + 1) (wr.setCell ⟨w.heap.size, k, none⟩ (.int .u8 (zs.getD k 0))) := by
  have h1 := (h.1.stored k (.int .u8 (zs.getD k 0))).1
  rw [set_take zs n k hk hz] at h1
  exact ⟨h1, h.2.setCell (Nat.le_refl _) _⟩

theorem Copied.full {w wr : World} {zs : List Int} {n : Nat} (h : Copied w zs n n wr) (hz : n ≤ zs.length) : Full wr (.slice (some ⟨w.heap.size, 0, none⟩) n n) (zs.take n) := by
  have hl : (zs.take n).length = n := by simp; omega
  refine .inr ⟨w.heap.size, by rw [hl], (h.1.lt _ rfl).2, fun j hj => ?_⟩
  have hj' : j < n := by omega
  rw [h.1.cellAt j (by omega)]
  have e : zs.take n ++ List.replicate (n - n) 0 = zs.take n := by simp
  rw [e, bcells_at _ j hj]

/-- The copy of a slice that is not nil, its length 0: of its address nothing is known. -/
theorem clone_empty (w : World) (x : Addr) (cap : Nat) :
    Calls Trym.prog 6 #[.slice (some x) 0 cap] w fun e w' => ∃ v, e = .returned v ∧ Full w' v [] ∧ Below w.heap.size w w' := by
  obtain ⟨i0, hi, hz0, hz1, hz2⟩ := info_parts Trym.info5
  have he := @Lib.run_eql_slice_nil Trym.prog
  go_enter Trym.func6, Trym.ntmps6
  go_wp2_with (at_make; refine wpList_make_full _ rfl (.tmp 8) (.tmp 8) 22 rfl w.heap.size 5 i0 (.int .u8 0) 1 Trym.underlying22 hi hz0 hz1 _ _ _ _ 0 rfl rfl rfl rfl (by omega) (by unfold maxLen; omega) (Nat.le_refl _) ?_)
  intro w1 hown hgrow
  have C := toHid <| Copied.start (w := w) (w1 := w1) [] 0 hown hgrow
  clear hown hgrow
  go_wp2
  refine wp_loop_rounds 1 ?_
  rw [rounds_succ]
  go_wp2
  go_ret
  exact ⟨_, rfl, Copied.full C.out (Nat.le_refl _), C.out.2⟩

theorem clone_nil (w : World) :
    Calls Trym.prog 6 #[.slice none 0 0] w fun e w' => ∃ v, e = .returned v ∧ Full w' v [] ∧ Below w.heap.size w w' := by
  have he := @Lib.run_eql_slice_nil Trym.prog
  go_enter Trym.func6, Trym.ntmps6
  go_wp2
  go_ret
  exact ⟨_, rfl, .inl ⟨rfl, rfl⟩, Below.refl _ _⟩

set_option maxHeartbeats 400000 in
theorem clone_row (w : World) (b off n cap : Nat) (zs : List Int) (hn0 : 0 < n) (hn : n ≤ 1048576) (hz : n ≤ zs.length) (hc : ∀ j, j < n → w.cell? ⟨b, off + j, none⟩ = some (.int .u8 (zs.getD j 0))) :
    Calls Trym.prog 6 #[.slice (some ⟨b, off, none⟩) n cap] w fun e w' => ∃ v, e = .returned v ∧ Full w' v (zs.take n) ∧ Below w.heap.size w w' := by
  obtain ⟨i0, hi, hz0, hz1, hz2⟩ := info_parts Trym.info5
  have hb : b < w.heap.size := World.block_lt_of_cell? _ _ (hc 0 hn0)
  have HC := toHid <| hc
  clear hc
  have he := @Lib.run_eql_slice_nil Trym.prog
  go_enter Trym.func6, Trym.ntmps6
  go_wp2_with (at_make; refine wpList_make_full _ rfl (.tmp 8) (.tmp 8) 22 rfl w.heap.size 5 i0 (.int .u8 0) 1 Trym.underlying22 hi hz0 hz1 _ _ _ _ n rfl rfl rfl rfl (by rw [hz2]; omega) (by unfold maxLen; omega) (Nat.le_refl _) ?_)
  intro w1 hown hgrow
  have C := toHid <| Copied.start (w := w) (w1 := w1) zs n (by simpa using hown) hgrow
  clear hown hgrow
  go_wp2
  go_loopw [4] (fun i wr => ∃ k : Nat, k ≤ n ∧ i = .int .i64 k ∧ Copied w zs n k wr) (fun i _ => n - (intOf i).toNat)
  case atStart => exact ⟨0, Nat.zero_le _, rfl, C.out⟩
  case round =>
    obtain ⟨k, hk, rfl, hcp⟩ := hrel
    by_cases hlt : k < n
    · have ca := (hcp.2.cell (p := ⟨b, off + k, none⟩) hb).trans (HC.out k hlt)
      have cf := hcp.1.frozenAt k
      have cb : ∃ u, wr.cell? ⟨w.heap.size, k, none⟩ = some u := by
        rw [hcp.1.cellAt k (by omega)]
        exact ⟨_, bcells_at _ k (by simp; omega)⟩
      obtain ⟨u, cb⟩ := cb
      have N := toHid <| hcp.next hlt hz
      clear hcp
      go_wp2
      go_roundw
      case rel => exact ⟨k + 1, by omega, by go_num, N.out⟩
      case measure => simp [intOf]; omega
    · obtain rfl : k = n := by omega
      have N := toHid <| hcp
      clear hcp
      go_wp2
      go_ret
      exact ⟨_, rfl, Copied.full N.out hz, N.out.2⟩

/-- The first n numbers of zs can be read through a slice at 'ao'. -/
def Rd (w : World) (ao : Option Addr) (n : Nat) (zs : List Int) : Prop :=
  n = 0 ∨ ∃ g, ao = some ⟨g, 0, none⟩ ∧ ∀ j, j < n → w.cell? ⟨g, j, none⟩ = some (.int .u8 (zs.getD j 0))

theorem same_rd (w : World) (ao bo : Option Addr) (ca cb n : Nat) (zs : List Int) (hn : n ≤ 1000000000) (ha : Rd w ao n zs) (hb : Rd w bo n zs) :
    Calls Trym.prog 12 #[.slice ao n ca, .slice bo n cb] w fun e w' => e = .returned (.bool true) ∧ ∃ q, w' = w.drewN q := by
  by_cases h0 : n = 0
  · subst h0
    exact same_none w ao bo ca cb
  · rcases ha with h | ⟨ga, rfl, ha⟩
    · exact absurd h h0
    · rcases hb with h | ⟨gb, rfl, hb⟩
      · exact absurd h h0
      · exact same_any w ga gb ca cb n zs hn ha hb


/-- A decimal digit's byte. -/
def dg (n : Int) : Bool := decide (48 ≤ n ∧ n ≤ 57)
theorem dg_yes {n : Int} (h : dg n = true) : 48 ≤ n ∧ n ≤ 57 := of_decide_eq_true h
theorem dg_no {n : Int} (h : dg n = false) : n < 48 ∨ 57 < n := by have := of_decide_eq_false h; omega

theorem digit_yes (n : Int) (w : World) (h1 : 48 ≤ n) (h2 : n ≤ 57) : Calls Trym.prog 8 #[.int .u8 n] w fun e w' => e = .returned (.bool true) ∧ w = w' := by
  go_enter Trym.func8, Trym.ntmps8
  go_wp2
  go_ret
  exact ⟨rfl, rfl⟩

theorem digit_no (n : Int) (w : World) (h : n < 48 ∨ 57 < n) : Calls Trym.prog 8 #[.int .u8 n] w fun e w' => e = .returned (.bool false) ∧ w = w' := by
  rcases h with h | h
  · go_enter Trym.func8, Trym.ntmps8
    go_wp2
    go_ret
    exact ⟨rfl, rfl⟩
  · have hd : decide (n ≤ 57) = false := decide_eq_false (by omega)
    have h48 : 48 ≤ n := by omega
    go_enter Trym.func8, Trym.ntmps8
    go_wp2
    go_ret
    exact ⟨rfl, rfl⟩

theorem ret_bool {a b : Bool} (h : a = b) : Ending.returned (.bool a) = .returned (.bool b) := by rw [h]

/-- The run that digits reads at place a: an optional '-', then digits as far as they go. -/
structure Run (zs : List Int) (a s e : Nat) : Prop where
  sgn : (s = a + 1 ∧ a < zs.length ∧ zs.getD a 0 = 45) ∨ (s = a ∧ a < zs.length ∧ zs.getD a 0 ≠ 45) ∨ (s = a ∧ a = zs.length)
  se : s ≤ e
  en : e ≤ zs.length
  dig : ∀ j, s ≤ j → j < e → 48 ≤ zs.getD j 0 ∧ zs.getD j 0 ≤ 57
  stop : e = zs.length ∨ (e < zs.length ∧ zs.getD e 0 < 48) ∨ (e < zs.length ∧ 57 < zs.getD e 0)

/-- From s on there is a longest run of digits. -/
theorem longest (zs : List Int) : ∀ (r s : Nat), s + r = zs.length → ∃ e, s ≤ e ∧ e ≤ zs.length ∧ (∀ j, s ≤ j → j < e → 48 ≤ zs.getD j 0 ∧ zs.getD j 0 ≤ 57) ∧
    (e = zs.length ∨ (e < zs.length ∧ zs.getD e 0 < 48) ∨ (e < zs.length ∧ 57 < zs.getD e 0))
  | 0, s, h => ⟨s, Nat.le_refl _, by omega, fun j h1 h2 => by omega, .inl (by omega)⟩
  | r + 1, s, h => by
    by_cases hd : 48 ≤ zs.getD s 0 ∧ zs.getD s 0 ≤ 57
    · obtain ⟨e, h1, h2, h3, h4⟩ := longest zs r (s + 1) (by omega)
      refine ⟨e, by omega, h2, fun j hj1 hj2 => ?_, h4⟩
      by_cases e2 : j = s
      · subst e2; exact hd
      · exact h3 j (by omega) hj2
    · refine ⟨s, Nat.le_refl _, by omega, fun j h1 h2 => by omega, ?_⟩
      by_cases h48 : zs.getD s 0 < 48
      · exact .inr (.inl ⟨by omega, h48⟩)
      · exact .inr (.inr ⟨by omega, by omega⟩)

theorem Run.of (zs : List Int) (a : Nat) (h : a ≤ zs.length) : ∃ s e, Run zs a s e := by
  by_cases h1 : a < zs.length
  · by_cases h2 : zs.getD a 0 = 45
    · obtain ⟨e, h3, h4, h5, h6⟩ := longest zs (zs.length - (a + 1)) (a + 1) (by omega)
      exact ⟨a + 1, e, .inl ⟨rfl, h1, h2⟩, h3, h4, h5, h6⟩
    · obtain ⟨e, h3, h4, h5, h6⟩ := longest zs (zs.length - a) a (by omega)
      exact ⟨a, e, .inr (.inl ⟨rfl, h1, h2⟩), h3, h4, h5, h6⟩
  · exact ⟨a, a, .inr (.inr ⟨rfl, by omega⟩), Nat.le_refl _, h, fun j h3 h4 => by omega, .inl (by omega)⟩

/-- The new ok. -/
def okOf (zs : List Int) (s e : Nat) : Bool := decide (s < e) && (zs.getD s 0 != 48 || decide (e = s + 1))

/-- Through a slice at 'oa' m numbers of zs can be read, from place o on. -/
def RdAt (w : World) (oa : Option Addr) (m o : Nat) (zs : List Int) : Prop :=
  m = 0 ∨ ∃ g, oa = some ⟨g, o, none⟩ ∧ ∀ j, o ≤ j → j < o + m → w.cell? ⟨g, j, none⟩ = some (.int .u8 (zs.getD j 0))

/-- The scanner at block p: its line, its place, its ok. -/
structure Scan (p : Nat) (w : World) (L : Value) (k : Int) (ok : Bool) : Prop where
  lt : p < w.heap.size
  c0 : w.cell? ⟨p, 0, none⟩ = some L
  c1 : w.cell? ⟨p, 1, none⟩ = some (.int .i64 k)
  c2 : w.cell? ⟨p, 2, none⟩ = some (.bool ok)
  fz : ∀ j, w.frozen? ⟨p, j, none⟩ = false

theorem ne_addr {p i j : Nat} (h : i ≠ j) : (⟨p, i, none⟩ : Addr) ≠ ⟨p, j, none⟩ := by
  intro e
  exact h (by injection e)
theorem set_same {w : World} {a : Addr} {u v : Value} (h : w.cell? a = some u) : (w.setCell a v).cell? a = some v := World.cell?_setCell_same w a v h
theorem set_far {w : World} {p i j : Nat} {v : Value} (h : i ≠ j) : (w.setCell ⟨p, i, none⟩ v).cell? ⟨p, j, none⟩ = w.cell? ⟨p, j, none⟩ := World.cell?_setCell_other w _ _ v (ne_addr h)

theorem Scan.at {p : Nat} {w : World} {L : Value} {k : Int} {ok : Bool} (h : Scan p w L k ok) (k' : Int) : Scan p (w.setCell ⟨p, 1, none⟩ (.int .i64 k')) L k' ok :=
  ⟨by have := h.lt; simp; omega, by rw [set_far (by omega)]; exact h.c0, set_same h.c1, by rw [set_far (by omega)]; exact h.c2, fun j => by rw [World.frozen?_setCell]; exact h.fz j⟩
theorem Scan.ok {p : Nat} {w : World} {L : Value} {k : Int} {ok : Bool} (h : Scan p w L k ok) (ok' : Bool) : Scan p (w.setCell ⟨p, 2, none⟩ (.bool ok')) L k ok' :=
  ⟨by have := h.lt; simp; omega, by rw [set_far (by omega)]; exact h.c0, by rw [set_far (by omega)]; exact h.c1, set_same h.c2, fun j => by rw [World.frozen?_setCell]; exact h.fz j⟩
theorem Scan.draws {p : Nat} {w : World} {L : Value} {k : Int} {ok : Bool} (h : Scan p w L k ok) (n : Nat) : Scan p (w.drewN n) L k ok := ⟨h.lt, h.c0, h.c1, h.c2, h.fz⟩

end Go.Proofs.Qxb6604095aMods
