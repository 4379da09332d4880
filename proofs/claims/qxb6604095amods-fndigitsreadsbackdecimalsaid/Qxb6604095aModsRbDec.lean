/-
  The walk of decimal_b1: twenty bytes in an array of the call's own, filled from its end; then a slice of the call's own: a sign, the digits.
-/
import Derived.Test.Qxb6604095aModsSdRead
namespace Go.Proofs.Qxb6604095aMods
open Go.RowKit

/-- The array of the call's own, in block B: twenty bytes, D; those from k on are digits. -/
structure Buf (w : World) (B : Nat) (D : Nat → Int) (k : Nat) (wr : World) : Prop where
  bel : Below w.heap.size w wr
  lt : B < wr.heap.size
  cell : ∀ j, j < 20 → wr.cell? ⟨B, j, none⟩ = some (.int .u8 (D j))
  dig : ∀ j, k ≤ j → j < 20 → 48 ≤ D j ∧ D j ≤ 57
  fz : ∀ j, wr.frozen? ⟨B, j, none⟩ = false

theorem Buf.next {w wr : World} {B : Nat} {D : Nat → Int} {k : Nat} (h : Buf w B D (k + 1) wr) (hB : w.heap.size ≤ B) (hk : k < 20) (v : Int) (h1 : 48 ≤ v) (h2 : v ≤ 57) :
    Buf w B (fun j => if j = k then v else D j) k (wr.setCell ⟨B, k, none⟩ (.int .u8 v)) where
  bel := h.bel.setCell hB _
  lt := by have := h.lt; simp; omega
  cell j hj := by
    by_cases e : j = k
    · subst e
      rw [if_pos rfl]
      exact set_same (h.cell j hj)
    · rw [if_neg e, set_far (by omega)]
      exact h.cell j hj
  dig j hj hj2 := by
    by_cases e : j = k
    · rw [if_pos e]; exact ⟨h1, h2⟩
    · rw [if_neg e]; exact h.dig j (by omega) hj2
  fz j := by rw [World.frozen?_setCell]; exact h.fz j

/-- The numbers from k on. -/
def from_ (D : Nat → Int) (k n : Nat) : List Int := (List.range n).map fun i => D (k + i)
theorem from_length (D : Nat → Int) (k n : Nat) : (from_ D k n).length = n := by simp [from_]
theorem from_at (D : Nat → Int) (k n i : Nat) (h : i < n) : (from_ D k n).getD i 0 = D (k + i) := by simp [from_, List.getD, h]

theorem down (m k : Nat) (h : m < 10 ^ (k + 1 + 1)) : m / 10 < 10 ^ (k + 1) := by
  rw [Nat.pow_succ] at h
  omega

theorem Trym.len36 : Trym.prog.arrayLen 36 = 20 := by kernel_rfl
theorem Trym.elem36 : Trym.prog.elem 36 = 5 := by kernel_rfl
theorem Trym.size5 (w : World) : (Go.sizeOf 5).run Trym.prog w = .ok 1 w := by kernel_rfl

/-- 'buf[k:]' of the array of twenty bytes. -/
theorem slice_from (w : World) (B k : Nat) (hk : k < 20) :
    (Instr.sliceAt 36 (.pointer (some ⟨B, 0, none⟩)) (some (.int .i64 (k : Int))) none none).run Trym.prog w = .ok (.slice (some ⟨B, k, none⟩) (20 - k) (20 - k)) w := by
  rw [run_sliceAt_array_l w 36 ⟨B, 0, none⟩ (by rw [Trym.len36, Trym.elem36]; exact Trym.underlying36) .i64 (k : Int) (by omega) (by rw [Trym.len36]; omega), Trym.elem36, Trym.size5, Trym.len36]
  simp only [Result.andThen, slicedAt, Int.toNat_natCast, Nat.mul_one]
  rw [if_neg (by omega), Addr.add_lit, Nat.zero_add]

/-- A decimal writing: a sign or none, then digits; a zero ahead only alone. -/
def Dec (ds : List Int) : Prop :=
  ∃ sg dg : List Int, ds = sg ++ dg ∧ (sg = [] ∨ sg = [45]) ∧ 0 < dg.length ∧ dg.length ≤ 20 ∧ (∀ j, j < dg.length → 48 ≤ dg.getD j 0 ∧ dg.getD j 0 ≤ 57) ∧ (dg.getD 0 0 = 48 → dg.length = 1)

/-- What decimal_b1 hands back. -/
def Wrote (w : World) (r : Ending) (w' : World) : Prop :=
  ∃ ds g, Dec ds ∧ r = .returned (.slice (some ⟨g, 0, none⟩) ds.length 21) ∧ g < w'.heap.size ∧ (∀ j, j < ds.length → w'.cell? ⟨g, j, none⟩ = some (.int .u8 (ds.getD j 0))) ∧ Below w.heap.size w w'

theorem own_cells {w : World} {base g n cap : Nat} {zs : List Int} (h : w.ownsRow base 5 1 (.slice (some ⟨g, 0, none⟩) n cap) n (bcells zs)) (hn : zs.length = n) :
    g < w.heap.size ∧ ∀ j, j < zs.length → w.cell? ⟨g, j, none⟩ = some (.int .u8 (zs.getD j 0)) :=
  ⟨(h.lt g rfl).2, fun j hj => by rw [h.cellAt j (by omega), bcells_at zs j hj]⟩

theorem buf_new (w : World) : Buf w w.heap.size (fun _ => 0) 20 (w.alloc (.cells #[.int .u8 0, .int .u8 0, .int .u8 0, .int .u8 0, .int .u8 0, .int .u8 0, .int .u8 0, .int .u8 0, .int .u8 0, .int .u8 0, .int .u8 0, .int .u8 0, .int .u8 0, .int .u8 0, .int .u8 0, .int .u8 0, .int .u8 0, .int .u8 0, .int .u8 0, .int .u8 0] 36)) where
  bel := (Below.refl _ _).alloc (Nat.le_refl _) _
  lt := by simp
  cell j hj := by
    rw [World.cell?_alloc_at _ _ _ _ rfl]
    match j, hj with
    | 0, _ => rfl
    | 1, _ => rfl
    | 2, _ => rfl
    | 3, _ => rfl
    | 4, _ => rfl
    | 5, _ => rfl
    | 6, _ => rfl
    | 7, _ => rfl
    | 8, _ => rfl
    | 9, _ => rfl
    | 10, _ => rfl
    | 11, _ => rfl
    | 12, _ => rfl
    | 13, _ => rfl
    | 14, _ => rfl
    | 15, _ => rfl
    | 16, _ => rfl
    | 17, _ => rfl
    | 18, _ => rfl
    | 19, _ => rfl
    | j + 20, h => exact absurd h (by omega)
  dig j h1 h2 := by omega
  fz j := World.frozen?_alloc_at _ _ _ _ rfl

theorem from_cells {w : World} {B k : Nat} {D : Nat → Int} (h : ∀ j, j < 20 → w.cell? ⟨B, j, none⟩ = some (.int .u8 (D j))) (hk : k < 20) :
    ∀ j u, (bcells (from_ D k (20 - k)))[j]? = some u → w.cell? ((⟨B, k, none⟩ : Addr).add j) = some u := by
  intro j u hu
  have hj : j < 20 - k := by have := (List.getElem?_eq_some_iff.1 hu).1; simpa [bcells, from_] using this
  rw [bcells_at _ _ (by rw [from_length]; exact hj), from_at _ _ _ _ hj] at hu
  rw [Addr.add_lit, h _ (by omega)]
  exact hu

theorem one_new (w : World) (c : Int) : ∀ j u, [Value.int .u8 c][j]? = some u → (w.alloc (.cells #[.int .u8 c] 5)).cell? ((⟨w.heap.size, 0, none⟩ : Addr).add j) = some u := by
  intro j u hj
  match j, hj with
  | 0, hj => simp at hj; subst hj; simp [Addr.add]

theorem dec_digits (D : Nat → Int) (k : Nat) (hk : k < 20) (hd : ∀ j, k ≤ j → j < 20 → 48 ≤ D j ∧ D j ≤ 57) (hl : D k = 48 → k = 19) (sg : List Int) (hs : sg = [] ∨ sg = [45]) : Dec (sg ++ from_ D k (20 - k)) := by
  refine ⟨sg, from_ D k (20 - k), rfl, hs, by rw [from_length]; omega, by rw [from_length]; omega, fun j hj => ?_, fun h => ?_⟩
  · rw [from_length] at hj
    rw [from_at _ _ _ _ hj]
    exact hd _ (by omega) (by omega)
  · rw [from_at _ _ _ _ (by omega)] at h
    have := hl h
    rw [from_length]; omega

theorem wrote_pos {w w1 w2 : World} {g k : Nat} {D : Nat → Int} (bel : Below w.heap.size w w1) (hg : w1.grownBy w2 (some g)) (h1 : w.heap.size ≤ w1.heap.size) (h2 : w.heap.size ≤ g) (hk : k < 20)
    (ho : w2.ownsRow (w.heap.size + 1) 5 1 (.slice (some ⟨g, 0, none⟩) (20 - k) 21) (20 - k) (bcells (from_ D k (20 - k)))) (hd : ∀ j, k ≤ j → j < 20 → 48 ≤ D j ∧ D j ≤ 57) (hl : D k = 48 → k = 19) :
    Wrote w (.returned (.slice (some ⟨g, 0, none⟩) (20 - k) 21)) w2 := by
  obtain ⟨a, b⟩ := own_cells ho (from_length _ _ _)
  exact ⟨[] ++ from_ D k (20 - k), g, dec_digits D k hk hd hl [] (.inl rfl), by rw [List.nil_append, from_length], a, b, bel.grown hg h1 (fun k h => by cases h; exact h2)⟩

theorem wrote_neg {w w1 w2 : World} {g k : Nat} {D : Nat → Int} (bel : Below w.heap.size w w1) (hg : w1.grownBy w2 (some g)) (h1 : w.heap.size ≤ w1.heap.size) (h2 : w.heap.size ≤ g) (hk : k < 20)
    (ho : w2.ownsRow (w.heap.size + 1) 5 1 (.slice (some ⟨g, 0, none⟩) (1 + (20 - k)) 21) (1 + (20 - k)) (bcells [45] ++ bcells (from_ D k (20 - k)))) (hd : ∀ j, k ≤ j → j < 20 → 48 ≤ D j ∧ D j ≤ 57) (hl : D k = 48 → k = 19) :
    Wrote w (.returned (.slice (some ⟨g, 0, none⟩) (1 + (20 - k)) 21)) w2 := by
  rw [← bcells_append] at ho
  have e : ([45] ++ from_ D k (20 - k)).length = 1 + (20 - k) := by rw [List.length_append, from_length]; rfl
  obtain ⟨a, b⟩ := own_cells ho e
  exact ⟨[45] ++ from_ D k (20 - k), g, dec_digits D k hk hd hl [45] (.inr rfl), by rw [e], a, b, bel.grown hg h1 (fun k h => by cases h; exact h2)⟩

set_option maxHeartbeats 1000000 in
theorem dec_pos (n : Nat) (w : World) (hn : n ≤ 9223372036854775807) : Calls Trym.prog 11 #[.int .i64 (n : Int)] w (Wrote w) := by
  obtain ⟨i0, hi, hz0, hz1, hz2⟩ := info_parts Trym.info5
  have hs : decide ((n : Int) < 0) = false := decide_eq_false (by omega)
  go_enter Trym.func11, Trym.ntmps11
  go_wp2
  go_loopw [3, 6] (fun a i wr => ∃ m k : Nat, ∃ D, m ≤ 18446744073709551615 ∧ a = .int .u64 (m : Int) ∧ i = .int .i64 ((k : Int) + 1) ∧ k < 20 ∧ m < 10 ^ (k + 1) ∧ (1 ≤ m ∨ k = 19) ∧ Buf w w.heap.size D (k + 1) wr) (fun _ i _ => (intOf i).toNat)
  case atStart => exact ⟨n, 19, fun _ => 0, by omega, rfl, rfl, by omega, by omega, .inr rfl, buf_new w⟩
  case round =>
    obtain ⟨m, k, D, hm, rfl, rfl, hk, hp, hlead, hB⟩ := hrel
    have c := hB.cell k hk
    have f := hB.fz k
    have B := toHid hB
    have P := toHid hp
    have L := toHid hlead
    clear hB hp hlead
    by_cases h9 : m ≤ 9
    · have Bn := toHid (B.out.next (Nat.le_refl _) hk (48 + (m : Int) % 10) (by omega) (by omega))
      obtain ⟨D', hD'⟩ : ∃ D' : Nat → Int, (fun j => if j = k then 48 + (m : Int) % 10 else D j) = D' := ⟨_, rfl⟩
      rw [hD'] at Bn
      have lead := toHid (show D' k = 48 → k = 19 by
        rw [← hD']; simp only [if_true]; intro h; have := L.out; omega)
      have S := fun W => slice_from W w.heap.size k hk
      have hlt := Bn.out.lt
      simp only [World.size_setCell] at hlt
      clear hD' B P L
      go_wp2_with (at_make; refine wpList_make_own _ rfl _ _ 22 rfl (w.heap.size + 1) 5 i0 (.int .u8 0) 1 Trym.underlying22 hi hz0 hz1 _ _ _ 21 rfl rfl (by omega) (by rw [hz2]; omega) (by unfold maxLen; omega) (by simp; omega) ?_)
      intro w1 hown hgrow
      have cells : Hid (∀ j, j < 20 → w1.cell? ⟨w.heap.size, j, none⟩ = some (.int .u8 (D' j))) := fun j hj => hgrow.cell (Bn.out.cell j hj) (by simp)
      have bel := toHid (Bn.out.bel.grown hgrow (by simp; omega) (fun k h => by cases h))
      have dig := toHid Bn.out.dig
      have sz := hgrow.size
      simp only [World.size_setCell] at sz hown
      have HW := toHid hown
      clear hown hgrow Bn c f
      go_wp2_with (at_builtin; refine wpList_append_fits _ rfl (.tmp 35) (.tmp 37) 22 rfl (w.heap.size + 1) 5 i0 1 Trym.underlying22 hi hz1 wr.heap.size 0 21 [] rfl HW.out ⟨w.heap.size, k, none⟩ (20 - k) (20 - k) (bcells (from_ D' k (20 - k))) rfl (by rw [bcells_length, from_length]; omega) (from_cells cells.out hk) (ints_oneCell _ _) (by omega) ?_)
      intro w2 hown2 hgrow2
      have R := toHid (wrote_pos bel.out hgrow2 (by omega) (by omega) hk (by simpa using hown2) dig.out lead.out)
      clear hown2 hgrow2
      go_wp2
      go_ret
      have := R.out
      simpa using this
    · have h10 : 10 ≤ m := by omega
      have Bn := toHid (B.out.next (Nat.le_refl _) hk (48 + (m : Int) % 10) (by omega) (by omega))
      obtain ⟨k, rfl⟩ : ∃ j, k = j + 1 := by
        rcases k with _ | k
        · exact absurd P.out (by omega)
        · exact ⟨k, rfl⟩
      have Q := toHid (down m k P.out)
      clear B P L
      go_wp2
      go_roundw
      case rel => exact ⟨m / 10, k, _, by omega, by go_num, by go_num, by omega, Q.out, .inl (by omega), Bn.out⟩
      case measure => simp [intOf]; omega

set_option maxHeartbeats 1000000 in
theorem dec_neg (n : Nat) (w : World) (h1 : 1 ≤ n) (hn : n ≤ 9223372036854775808) : Calls Trym.prog 11 #[.int .i64 (-(n : Int))] w (Wrote w) := by
  obtain ⟨i0, hi, hz0, hz1, hz2⟩ := info_parts Trym.info5
  have hs : decide (0 < n) = true := decide_eq_true (by omega)
  go_enter Trym.func11, Trym.ntmps11
  go_wp2
  go_loopw [3, 6] (fun a i wr => ∃ m k : Nat, ∃ D, m ≤ 18446744073709551615 ∧ a = .int .u64 (m : Int) ∧ i = .int .i64 ((k : Int) + 1) ∧ k < 20 ∧ m < 10 ^ (k + 1) ∧ (1 ≤ m ∨ k = 19) ∧ Buf w w.heap.size D (k + 1) wr) (fun _ i _ => (intOf i).toNat)
  case atStart => exact ⟨n, 19, fun _ => 0, by omega, by go_num, rfl, by omega, by omega, .inr rfl, buf_new w⟩
  case round =>
    obtain ⟨m, k, D, hm, rfl, rfl, hk, hp, hlead, hB⟩ := hrel
    have c := hB.cell k hk
    have f := hB.fz k
    have B := toHid hB
    have P := toHid hp
    have L := toHid hlead
    clear hB hp hlead
    by_cases h9 : m ≤ 9
    · have Bn := toHid (B.out.next (Nat.le_refl _) hk (48 + (m : Int) % 10) (by omega) (by omega))
      obtain ⟨D', hD'⟩ : ∃ D' : Nat → Int, (fun j => if j = k then 48 + (m : Int) % 10 else D j) = D' := ⟨_, rfl⟩
      rw [hD'] at Bn
      have lead := toHid (show D' k = 48 → k = 19 by
        rw [← hD']; simp only [if_true]; intro h; have := L.out; omega)
      have S := fun W => slice_from W w.heap.size k hk
      have hlt := Bn.out.lt
      simp only [World.size_setCell] at hlt
      clear hD' B P L
      go_wp2_with (at_make; refine wpList_make_own _ rfl _ _ 22 rfl (w.heap.size + 1) 5 i0 (.int .u8 0) 1 Trym.underlying22 hi hz0 hz1 _ _ _ 21 rfl rfl (by omega) (by rw [hz2]; omega) (by unfold maxLen; omega) (by simp; omega) ?_)
      intro w1 hown hgrow
      have cells : Hid (∀ j, j < 20 → w1.cell? ⟨w.heap.size, j, none⟩ = some (.int .u8 (D' j))) := fun j hj => hgrow.cell (Bn.out.cell j hj) (by simp)
      have bel := toHid (Bn.out.bel.grown hgrow (by simp; omega) (fun k h => by cases h))
      have dig := toHid Bn.out.dig
      have sz := hgrow.size
      simp only [World.size_setCell] at sz hown
      have HW := toHid hown
      clear hown hgrow Bn c f
      go_wp2_with (at_builtin; refine wpList_append_fits _ rfl (.tmp 32) (.tmp 33) 22 rfl (w.heap.size + 1) 5 i0 1 Trym.underlying22 hi hz1 wr.heap.size 0 21 [] rfl (HW.out.alloc _) ⟨w1.heap.size, 0, none⟩ 1 1 [.int .u8 45] rfl rfl (one_new _ _) (ints_oneCell .u8 [45]) (by omega) ?_)
      intro w2 hown2 hgrow2
      have cells2 : Hid (∀ j, j < 20 → w2.cell? ⟨w.heap.size, j, none⟩ = some (.int .u8 (D' j))) := fun j hj =>
        hgrow2.cell (by rw [World.cell?_alloc_past _ _ _ (by omega)]; exact cells.out j hj) (by simp; omega)
      have bel2 := toHid ((bel.out.alloc (by omega) _).grown hgrow2 (by simp; omega) (fun k h => by cases h; omega))
      have sz2 := hgrow2.size
      simp only [World.size_alloc] at sz2
      have HW2 : Hid (w2.ownsRow (w.heap.size + 1) 5 1 (.slice (some ⟨wr.heap.size, 0, none⟩) 1 21) 1 (bcells [45])) := toHid (by simpa [bcells] using hown2)
      clear hown2 hgrow2
      go_wp2_with (at_builtin; refine wpList_append_fits _ rfl (.tmp 35) (.tmp 37) 22 rfl (w.heap.size + 1) 5 i0 1 Trym.underlying22 hi hz1 wr.heap.size 1 21 (bcells [45]) rfl HW2.out ⟨w.heap.size, k, none⟩ (20 - k) (20 - k) (bcells (from_ D' k (20 - k))) rfl (by rw [bcells_length, from_length]; omega) (from_cells cells2.out hk) (ints_oneCell _ _) (by omega) ?_)
      intro w3 hown3 hgrow3
      have R := toHid (wrote_neg bel2.out hgrow3 (by omega) (by omega) hk hown3 dig.out lead.out)
      clear hown3 hgrow3
      go_wp2
      go_ret
      exact R.out
    · have h10 : 10 ≤ m := by omega
      have Bn := toHid (B.out.next (Nat.le_refl _) hk (48 + (m : Int) % 10) (by omega) (by omega))
      obtain ⟨k, rfl⟩ : ∃ j, k = j + 1 := by
        rcases k with _ | k
        · exact absurd P.out (by omega)
        · exact ⟨k, rfl⟩
      have Q := toHid (down m k P.out)
      clear B P L
      go_wp2
      go_roundw
      case rel => exact ⟨m / 10, k, _, by omega, by go_num, by go_num, by omega, Q.out, .inl (by omega), Bn.out⟩
      case measure => simp [intOf]; omega

end Go.Proofs.Qxb6604095aMods
