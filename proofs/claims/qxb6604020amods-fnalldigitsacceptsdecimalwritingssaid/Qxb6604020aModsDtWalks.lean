/-
  The walk of decimalText: twenty bytes in an array of the call's own, filled from its end; the text is not empty and all digits.
-/
import Derived.Test.Qxb6604020aModsAdWalks
import Derived.Laws.BytesArg
namespace Go.Proofs.Qxb6604020aMods
open Go.RowKit

/-- The array of the call's own: twenty bytes, D; those from k on are digits. -/
structure Buf (w : World) (D : Nat → Int) (k : Nat) (wr : World) : Prop where
  gr : Grown w wr
  cell : ∀ j, j < 20 → wr.cell? ⟨w.heap.size, j, none⟩ = some (.int .u8 (D j))
  dig : ∀ j, k ≤ j → j < 20 → 48 ≤ D j ∧ D j ≤ 57
  fz : ∀ j, wr.frozen? ⟨w.heap.size, j, none⟩ = false

theorem Buf.next {w wr : World} {D : Nat → Int} {k : Nat} (h : Buf w D (k + 1) wr) (hk : k < 20) (v : Int) (h1 : 48 ≤ v) (h2 : v ≤ 57) :
    Buf w (fun j => if j = k then v else D j) k (wr.setCell ⟨w.heap.size, k, none⟩ (.int .u8 v)) where
  gr := h.gr.setCell (Nat.le_refl _) _
  cell j hj := by
    by_cases e : j = k
    · subst e
      rw [if_pos rfl]
      exact World.cell?_setCell_same _ _ _ (h.cell j hj)
    · rw [if_neg e, World.cell?_setCell_other _ _ _ _ (by intro e2; injection e2 with _ e3; omega)]
      exact h.cell j hj
  dig j hj hj2 := by
    by_cases e : j = k
    · rw [if_pos e]; exact ⟨h1, h2⟩
    · rw [if_neg e]; exact h.dig j (by omega) hj2
  fz j := by rw [World.frozen?_setCell]; exact h.fz j

/-- The numbers from k on. -/
def from_ (D : Nat → Int) (k n : Nat) : List Int := (List.range n).map fun i => D (k + i)
theorem from_length (D : Nat → Int) (k n : Nat) : (from_ D k n).length = n := by simp [from_]
theorem from_at (D : Nat → Int) (k n i : Nat) (h : i < n) : (from_ D k n).getD i 0 = D (k + i) := by simp [from_, List.getD, h]

theorem str_size (xs : List Int) : (strOfNums xs).size = xs.length := by
  show (strOfNums xs).data.size = _
  simp [strOfNums]
theorem str_db (xs : List Int) (k : Nat) (hk : k < xs.length) (h : 48 ≤ xs.getD k 0 ∧ xs.getD k 0 ≤ 57) : db (strOfNums xs) k = true := by
  have hs : k < (strOfNums xs).size := by rw [str_size]; exact hk
  rw [← db_at _ _ hs]
  have e : (strOfNums xs)[k] = UInt8.ofNat (xs.getD k 0).toNat := by
    show (strOfNums xs).data[k] = _
    simp [strOfNums, List.getD, hk]
  rw [e]
  generalize xs.getD k 0 = v at h ⊢
  unfold dg
  rw [decide_eq_true_iff, UInt8.toNat_ofNat']
  omega

theorem down (m k : Nat) (h : m < 10 ^ (k + 1 + 1)) : m / 10 < 10 ^ (k + 1) := by
  rw [Nat.pow_succ] at h
  omega

/-- 'string(buf[k:])'. -/
theorem Buf.text {w wr : World} {D : Nat → Int} {k : Nat} (h : Buf w D k wr) (hk : k < 20) :
    (convert 28 9 (.slice (some ⟨w.heap.size, k, none⟩) (20 - k) (20 - k))).run Trym.prog wr = .ok (.string (strOfNums (from_ D k (20 - k)))) wr :=
  run_convert_bytes_arg (P := Trym.prog) wr 28 5 Trym.underlying28 Trym.underlying5 w.heap.size k (20 - k) (20 - k) (from_ D k (20 - k)) (from_length _ _ _)
    (fun i hi => by rw [h.cell _ (by omega), from_at _ _ _ _ hi]) 9 Trym.underlying9

theorem Trym.len27 : Trym.prog.arrayLen 27 = 20 := by kernel_rfl
theorem Trym.elem27 : Trym.prog.elem 27 = 5 := by kernel_rfl
theorem Trym.size5 (w : World) : (Go.sizeOf 5).run Trym.prog w = .ok 1 w := by kernel_rfl

/-- 'buf[k:]' of the array of twenty bytes. -/
theorem slice_from (w : World) (B k : Nat) (hk : k < 20) :
    (Instr.sliceAt 27 (.pointer (some ⟨B, 0, none⟩)) (some (.int .i64 (k : Int))) none none).run Trym.prog w = .ok (.slice (some ⟨B, k, none⟩) (20 - k) (20 - k)) w := by
  rw [run_sliceAt_array_l w 27 ⟨B, 0, none⟩ (by rw [Trym.len27, Trym.elem27]; exact Trym.underlying27) .i64 (k : Int) (by omega) (by rw [Trym.len27]; omega), Trym.elem27, Trym.size5, Trym.len27]
  simp only [Result.andThen, slicedAt, Int.toNat_natCast, Nat.mul_one]
  rw [if_neg (by omega), Addr.add_lit, Nat.zero_add]

set_option maxHeartbeats 400000 in
theorem text_any (n : Nat) (w : World) (hn : n ≤ 18446744073709551615) :
    Calls Trym.prog 8 #[.int .u64 (n : Int)] w fun e w' => ∃ t : ByteArray, e = .returned (.string t) ∧ 0 < t.size ∧ t.size ≤ 20 ∧ (∀ k, k < t.size → db t k = true) ∧ Grown w w' := by
  go_enter Trym.func8, Trym.ntmps8
  go_wp2
  go_loopw [0, 4] (fun a i wr => ∃ m k : Nat, ∃ D, m ≤ 18446744073709551615 ∧ a = .int .u64 (m : Int) ∧ i = .int .i64 ((k : Int) + 1) ∧ k < 20 ∧ m < 10 ^ (k + 1) ∧ Buf w D (k + 1) wr) (fun _ i _ => (intOf i).toNat)
  case atStart =>
    refine ⟨n, 19, fun _ => 0, hn, rfl, rfl, by omega, by omega, ⟨(Grown.refl _).alloc _ _, fun j hj => ?_, fun j h1 h2 => by omega, fun j => World.frozen?_alloc_at _ _ _ _ rfl⟩⟩
    rw [World.cell?_alloc_at _ _ _ _ rfl]
    match j, hj with
    | 0, _ => rfl
    | 1, _ => rfl
    | 2, _ => rfl
    | 3, _ => rfl
    | 4, _ => rfl
    | 5, _ => rfl
    | 6, _ => rfl
    | 7, _ => rfl
    | 8, _ => rfl
    | 9, _ => rfl
    | 10, _ => rfl
    | 11, _ => rfl
    | 12, _ => rfl
    | 13, _ => rfl
    | 14, _ => rfl
    | 15, _ => rfl
    | 16, _ => rfl
    | 17, _ => rfl
    | 18, _ => rfl
    | 19, _ => rfl
    | j + 20, h => exact absurd h (by omega)
  case round =>
    obtain ⟨m, k, D, hm, rfl, rfl, hk, hp, hB⟩ := hrel
    have c := hB.cell k hk
    have f := hB.fz k
    have B := toHid hB
    have P := toHid hp
    clear hB hp
    by_cases h9 : m ≤ 9
    · have Bn := toHid (B.out.next hk (48 + (m : Int) % 10) (by omega) (by omega))
      have T := Bn.out.text hk
      have S := fun W => slice_from W w.heap.size k hk
      clear B P
      go_wp2
      go_ret
      refine ⟨_, rfl, by rw [str_size, from_length]; omega, by rw [str_size, from_length]; omega, fun j hj => ?_, Bn.out.gr⟩
      rw [str_size, from_length] at hj
      refine str_db _ _ (by rw [from_length]; exact hj) ?_
      rw [from_at _ _ _ _ hj]
      exact Bn.out.dig _ (by omega) (by omega)
    · have h10 : 10 ≤ m := by omega
      have Bn := toHid (B.out.next hk (48 + (m : Int) % 10) (by omega) (by omega))
      obtain ⟨k, rfl⟩ : ∃ j, k = j + 1 := by
        rcases k with _ | k
        · exact absurd P.out (by omega)
        · exact ⟨k, rfl⟩
      have Q := toHid (down m k P.out)
      clear B P
      go_wp2
      go_roundw
      case rel => exact ⟨m / 10, k, _, by omega, by go_num, by go_num, by omega, Q.out, Bn.out⟩
      case measure => simp [intOf]; omega

end Go.Proofs.Qxb6604020aMods
