/-
  The writer's text and state, and the one law on 'append' that its methods want. No walk here.
-/
import Derived.Test.Qxb6603830aModsRows
import Derived.WalkKit
import Derived.ProofKit
import Derived.ArgAppend
namespace Go.Proofs.Qxb6603830aMods
open Go.RowKit

theorem Trym.info5 : (Trym.prog.info? 5).map (fun i => (i.zero, i.size, i.bytes)) = some (some (.int .u8 0), 1, 1) := by kernel_rfl

theorem toHid {p : Prop} (h : p) : Hid p := h

/-- Numbers as the cells of bytes. -/
def bcells (zs : List Int) : List Value := zs.map (Value.int .u8)

theorem bcells_length (zs : List Int) : (bcells zs).length = zs.length := by simp [bcells]
theorem bcells_append (a b : List Int) : bcells (a ++ b) = bcells a ++ bcells b := by simp [bcells]
theorem bcells_at (zs : List Int) (j : Nat) (h : j < zs.length) : (bcells zs)[j]? = some (.int .u8 (zs.getD j 0)) := by
  simp [bcells, List.getD, h]

/-- The text that a writer at block p holds: a full slice that lies below p (as it came), or a row that was made behind p. -/
def Txt (p : Nat) (w : World) (v : Value) (zs : List Int) : Prop :=
  (∃ g, v = .slice (some ⟨g, 0, none⟩) zs.length zs.length ∧ g < p ∧ ∀ j, j < zs.length → w.cell? ⟨g, j, none⟩ = some (.int .u8 (zs.getD j 0))) ∨
  w.ownsRow (p + 1) 5 1 v zs.length (bcells zs)

theorem Txt.below {p : Nat} {w w' : World} {v : Value} {zs : List Int} (h : Txt p w v zs) (hb : ∀ k, k ≠ p → k < w.heap.size → w'.heap[k]? = w.heap[k]?) (hp : p < w.heap.size) : Txt p w' v zs := by
  rcases h with ⟨g, hv, hg, hc⟩ | ⟨h1, h2⟩
  · exact .inl ⟨g, hv, hg, fun j hj => by rw [World.cell?_of_block (w := w) (hb g (by omega) (by omega))]; exact hc j hj⟩
  · refine .inr ⟨h1, ?_⟩
    rcases h2 with h2 | ⟨g, cap, cur, hv, hg, hh, r⟩
    · exact .inl h2
    · have hlt : g < w.heap.size := (Array.getElem?_eq_some_iff.1 hh).1
      exact .inr ⟨g, cap, cur, hv, hg, by rw [hb g (by omega) hlt]; exact hh, r⟩

/-- What the walk reads of such a text. -/
theorem Txt.read {p : Nat} {w : World} {v : Value} {zs : List Int} (h : Txt p w v zs) :
    (v = .slice none 0 0 ∧ zs = []) ∨ ∃ g cap, v = .slice (some ⟨g, 0, none⟩) zs.length cap ∧ zs.length ≤ cap ∧ ∀ j, j < zs.length → w.cell? ⟨g, j, none⟩ = some (.int .u8 (zs.getD j 0)) := by
  rcases h with ⟨g, hv, hg, hc⟩ | h
  · exact .inr ⟨g, _, hv, Nat.le_refl _, hc⟩
  · rcases h.2 with ⟨h2, hn⟩ | ⟨g, cap, cur, hv, hg, hh, hle, _⟩
    · exact .inl ⟨h2, List.eq_nil_of_length_eq_zero hn⟩
    · subst hv
      refine .inr ⟨g, cap, rfl, hle, fun j hj => ?_⟩
      rw [h.cellAt j (by omega), bcells_at zs j hj]

/-- 'append' of one byte onto such a text: a row behind p, longer by one; nothing up to p has turned. -/
theorem wpList_append_txt (w : World) {ops : Array Oper} {rest : List Oper} {o : Oper} {a : Act} {Q : Exit → Act → World → Prop}
    (hg : o.guard = none) (s x : Operand) (hop : o.op = Op.call { callee := Callee.builtin Builtin.append, args := #[s, x], argTypes := #[22, 22] })
    (p : Nat) (v : Value) (zs : List Int) (c : Int) (hs : a.eval s = v) (ht : Txt p w v zs) (hp : p < w.heap.size) (hlen : zs.length ≤ 1000000000)
    (ad : Addr) (hx : a.eval x = .slice (some ad) 1 1) (hc : w.cell? (ad.add 0) = some (.int .u8 c))
    (hK : ∀ g cap w', w'.ownsRow (p + 1) 5 1 (.slice (some ⟨g, 0, none⟩) (zs ++ [c]).length cap) (zs ++ [c]).length (bcells (zs ++ [c])) → Below (p + 1) w w' →
      wpList Trym.prog ops Q rest (a.put o.dst (.slice (some ⟨g, 0, none⟩) (zs ++ [c]).length cap)) w') :
    wpList Trym.prog ops Q (o :: rest) a w := by
  obtain ⟨i0, hi, hz0, hz1, hz2⟩ := info_parts Trym.info5
  have hnews : ∀ j u, [Value.int .u8 c][j]? = some u → w.cell? (ad.add j) = some u := by
    intro j u hj
    match j, hj with
    | 0, hj => simp at hj; subst hj; exact hc
  have hone : ∀ u ∈ [Value.int .u8 c], u.oneCell' = true := by intro u hu; simp at hu; subst hu; rfl
  have fin : ∀ v' w', w'.ownsRow (p + 1) 5 1 v' (zs.length + 1) (bcells zs ++ [Value.int .u8 c]) → Below (p + 1) w w' → wpList Trym.prog ops Q rest (a.put o.dst v') w' := by
    intro v' w' hown hbel
    have e : bcells zs ++ [Value.int .u8 c] = bcells (zs ++ [c]) := by simp [bcells]
    have en : zs.length + 1 = (zs ++ [c]).length := by simp
    rw [e, en] at hown
    obtain ⟨g, cap, rfl⟩ : ∃ g cap, v' = .slice (some ⟨g, 0, none⟩) (zs ++ [c]).length cap := by
      rcases hown.2 with ⟨_, h⟩ | ⟨g, cap', _, h, _⟩
      · simp at h
      · exact ⟨g, cap', h⟩
    exact hK g cap w' hown hbel
  rcases ht with ⟨g, hv, hgp, hcell⟩ | hown
  · refine wpList_append_grows w hg s x 22 hop 5 i0 (.int .u8 0) 1 1 Trym.underlying22 hi hz0 hz1 hz2 rfl (by decide) (some ⟨g, 0, none⟩) zs.length zs.length (bcells zs) (hs.trans hv) (by intro h; cases h) (by simp [bcells])
      ?_ ad 1 1 [.int .u8 c] hx rfl hnews hone (by omega) (by unfold maxLen; omega) (by omega) ?_
    · intro b hb j u hu
      obtain rfl := Option.some.inj hb
      have hj : j < zs.length := by have := (List.getElem?_eq_some_iff.1 hu).1; simpa [bcells] using this
      rw [bcells_at zs j hj] at hu
      rw [Addr.add_lit, Nat.zero_add, hcell j hj]
      exact hu
    · intro v' w' hown hgrow
      refine fin v' w' ?_ ((Below.refl _ _).grown hgrow (by omega) (fun k h => by cases h))
      obtain ⟨h1, h2⟩ := hown
      refine ⟨h1, ?_⟩
      rcases h2 with h2 | ⟨g', cap, cur, hv', hg', r⟩
      · exact .inl h2
      · exact .inr ⟨g', cap, cur, hv', by omega, r⟩
  · refine wpList_append_own w hg s x 22 hop (p + 1) 5 i0 (.int .u8 0) 1 1 Trym.underlying22 hi hz0 hz1 hz2 rfl (by decide) v zs.length (bcells zs) hs hown ad 1 1 [.int .u8 c] hx rfl hnews hone (by unfold maxLen; omega) (by omega) (by omega) ?_
    intro v' w' hown' hgrow _
    exact fin v' w' hown' ((Below.refl _ _).grown hgrow (by omega) (fun k h => (hown.lt k h).1))

/-- The writer at block p: its text, its column, its two marks. -/
structure Wr (p : Nat) (w : World) (zs : List Int) (col : Int) (sp ind : Bool) : Prop where
  lt : p < w.heap.size
  txt : ∃ v, w.cell? ⟨p, 0, none⟩ = some v ∧ Txt p w v zs
  c1 : w.cell? ⟨p, 1, none⟩ = some (.int .i64 col)
  c2 : w.cell? ⟨p, 2, none⟩ = some (.bool sp)
  c3 : w.cell? ⟨p, 3, none⟩ = some (.bool ind)
  fz : ∀ j, w.frozen? ⟨p, j, none⟩ = false

theorem ne_addr {p i j : Nat} (h : i ≠ j) : (⟨p, i, none⟩ : Addr) ≠ ⟨p, j, none⟩ := by
  intro e
  exact h (by injection e)

theorem set_same {w : World} {a : Addr} {u v : Value} (h : w.cell? a = some u) : (w.setCell a v).cell? a = some v := World.cell?_setCell_same w a v h
theorem set_far {w : World} {p i j : Nat} {v : Value} (h : i ≠ j) : (w.setCell ⟨p, i, none⟩ v).cell? ⟨p, j, none⟩ = w.cell? ⟨p, j, none⟩ := World.cell?_setCell_other w _ _ v (ne_addr h)

/-- Behind an append and the two stores. -/
theorem Wr.next {p : Nat} {w w1 : World} {zs zs' : List Int} {col col' : Int} {sp ind : Bool} {v' : Value} (h : Wr p w zs col sp ind) (hb : Below (p + 1) w w1) (ho : w1.ownsRow (p + 1) 5 1 v' zs'.length (bcells zs')) :
    Wr p ((w1.setCell ⟨p, 0, none⟩ v').setCell ⟨p, 1, none⟩ (.int .i64 col')) zs' col' sp ind ∧ Below p w ((w1.setCell ⟨p, 0, none⟩ v').setCell ⟨p, 1, none⟩ (.int .i64 col')) := by
  obtain ⟨v, hv, _⟩ := h.txt
  have k0 : w1.cell? ⟨p, 0, none⟩ = some v := (hb.cell (p := ⟨p, 0, none⟩) (Nat.lt_succ_self p)).trans hv
  have k1 : w1.cell? ⟨p, 1, none⟩ = _ := (hb.cell (p := ⟨p, 1, none⟩) (Nat.lt_succ_self p)).trans h.c1
  have k2 : w1.cell? ⟨p, 2, none⟩ = _ := (hb.cell (p := ⟨p, 2, none⟩) (Nat.lt_succ_self p)).trans h.c2
  have k3 : w1.cell? ⟨p, 3, none⟩ = _ := (hb.cell (p := ⟨p, 3, none⟩) (Nat.lt_succ_self p)).trans h.c3
  have l1 : (w1.setCell ⟨p, 0, none⟩ v').cell? ⟨p, 1, none⟩ = some (.int .i64 col) := by rw [set_far (by omega)]; exact k1
  have l0 : (w1.setCell ⟨p, 0, none⟩ v').cell? ⟨p, 0, none⟩ = some v' := set_same k0
  refine ⟨⟨?_, ⟨v', ?_, .inr (ownsRow_setCell_below (ownsRow_setCell_below ho (Nat.lt_succ_self p) _) (Nat.lt_succ_self p) _)⟩, set_same l1, ?_, ?_, fun j => ?_⟩,
    ((hb.mono (Nat.le_succ p)).setCell (Nat.le_refl p) _).setCell (Nat.le_refl p) _⟩
  · have := hb.size; have := h.lt; simp; omega
  · rw [set_far (by omega)]; exact l0
  · rw [set_far (by omega), set_far (by omega)]; exact k2
  · rw [set_far (by omega), set_far (by omega)]; exact k3
  · simp only [World.frozen?_setCell]
    exact (hb.frozen (p := ⟨p, j, none⟩) (Nat.lt_succ_self p)).trans (h.fz j)

/-- Behind the two marks' stores. -/
theorem Wr.marks {p : Nat} {w : World} {zs : List Int} {col : Int} {sp ind : Bool} (h : Wr p w zs col sp ind) :
    Wr p ((w.setCell ⟨p, 2, none⟩ (.bool true)).setCell ⟨p, 3, none⟩ (.bool true)) zs col true true ∧ Below p w ((w.setCell ⟨p, 2, none⟩ (.bool true)).setCell ⟨p, 3, none⟩ (.bool true)) := by
  obtain ⟨v, hv, ht⟩ := h.txt
  have l3 : (w.setCell ⟨p, 2, none⟩ (.bool true)).cell? ⟨p, 3, none⟩ = some (.bool ind) := by rw [set_far (by omega)]; exact h.c3
  have l2 : (w.setCell ⟨p, 2, none⟩ (.bool true)).cell? ⟨p, 2, none⟩ = some (.bool true) := set_same h.c2
  refine ⟨⟨by have := h.lt; simp; omega, ⟨v, ?_, ht.below (fun k hk _ => ?_) h.lt⟩, ?_, ?_, set_same l3, fun j => by simp only [World.frozen?_setCell]; exact h.fz j⟩,
    ((Below.refl _ _).setCell (Nat.le_refl p) _).setCell (Nat.le_refl p) _⟩
  · rw [set_far (by omega), set_far (by omega)]; exact hv
  · rw [Below.heap_setCell _ _ _ _ hk, Below.heap_setCell _ _ _ _ hk]
  · rw [set_far (by omega), set_far (by omega)]; exact h.c1
  · rw [set_far (by omega)]; exact l2

end Go.Proofs.Qxb6603830aMods
