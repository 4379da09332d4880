/-
  The shim ZZLineScanDigits: a scanner is made, digits called, the three results handed back.
-/
import Derived.Test.Qxb6604095aModsSdDigA
import Derived.Test.Qxb6604095aModsSdDigB
import Derived.Test.Qxb6604095aModsSdDigC
namespace Go.Proofs.Qxb6604095aMods
open Go.RowKit

theorem digits_any (p g : Nat) (w : World) (zs : List Int) (a s e : Nat) (ok : Bool) (hn : zs.length ≤ 10000000) (hS : Scan p w (.slice (some ⟨g, 0, none⟩) zs.length zs.length) (a : Int) ok) (hg : g < p)
    (hc : ∀ j, j < zs.length → w.cell? ⟨g, j, none⟩ = some (.int .u8 (zs.getD j 0))) (hr : Run zs a s e) :
    Calls Trym.prog 13 #[.pointer (some ⟨p, 0, none⟩)] w (Read p g w zs a s e ok) := by
  rcases hr.sgn with ⟨rfl, ha, hm⟩ | ⟨rfl, ha, hm⟩ | ⟨rfl, ha⟩
  · exact digits_sign p g w zs a e ok hn hS hg hc ha hm hr
  · exact digits_plain p g w zs _ e ok hn hS hg hc ha hm hr
  · subst ha
    obtain rfl : e = zs.length := by have := hr.se; have := hr.en; omega
    exact digits_end p g w zs ok hn hS

set_option maxHeartbeats 1000000 in
theorem digits_nil (p : Nat) (w : World) (ok : Bool) (hS : Scan p w (.slice none 0 0) 0 ok) :
    Calls Trym.prog 13 #[.pointer (some ⟨p, 0, none⟩)] w fun r w' => ∃ oa co, r = .returned (.slice oa 0 co) ∧ Scan p w' (.slice none 0 0) 0 false ∧ Below p w w' := by
  have c0 := hS.c0
  have c1 := hS.c1
  have c2 := hS.c2
  have f1 := hS.fz 1
  have f2 := hS.fz 2
  have HS := toHid hS
  clear hS
  rcases ok with _ | _
  all_goals
    go_enter Trym.func13, Trym.ntmps13
    go_wp2
    go_quiet (fail)
    go_wp2
    refine wp_loop_rounds 1 ?_
    rw [rounds_succ]
    go_wp2
    go_quiet (fail)
    go_wp2
    go_quiet (fail)
    go_wp2
    go_ret
    refine ⟨_, _, rfl, ?_, ?_⟩
    · exact ((HS.out.draws _).ok false).draws _
    · exact draws_below ((draws_below (Below.refl _ _) _).setCell (Nat.le_refl p) _) _

theorem scan_new (w : World) (L : Value) (k : Int) (ok : Bool) : Scan w.heap.size (w.alloc (.cells #[L, .int .i64 k, .bool ok] 33)) L k ok :=
  ⟨by simp, by simp, by simp, by simp, fun j => World.frozen?_alloc_at _ _ _ _ rfl⟩

set_option maxHeartbeats 400000 in
theorem zz_of (w : World) (L : Value) (hL : ∃ la n c, L = .slice la n c) (k e : Int) (ok ok' : Bool) (m : Nat) (G : Option Addr → Prop) (L' : Value)
    (hD : ∀ w1, Scan w.heap.size w1 L k ok → Below w.heap.size w w1 → Calls Trym.prog 13 #[.pointer (some ⟨w.heap.size, 0, none⟩)] w1 fun r w' => ∃ oa co, r = .returned (.slice oa m co) ∧ G oa ∧ Scan w.heap.size w' L' e ok' ∧ Below w.heap.size w1 w') :
    Calls Trym.prog 7 #[L, .int .i64 k, .bool ok] w fun r w' => ∃ oa co, r = .returned (.tuple #[.slice oa m co, .int .i64 e, .bool ok']) ∧ G oa ∧ Below w.heap.size w w' := by
  obtain ⟨la, n, c, rfl⟩ := hL
  have HD := toHid hD
  clear hD
  go_enter Trym.func7, Trym.ntmps7
  go_wp2_with fail
  refine (HD.out _ (scan_new w _ k ok) ((Below.refl _ _).alloc (Nat.le_refl _) _)).mono ?_
  rintro r w2 ⟨oa, co, rfl, hG, hS, hb⟩
  have q1 := hS.c1
  have q2 := hS.c2
  have HG := toHid hG
  have HB := toHid (((Below.refl _ _).alloc (Nat.le_refl _) (.cells #[.slice la n c, .int .i64 k, .bool ok] 33)).trans hb)
  clear hS hG hb
  go_wp2_with fail
  go_quiet (fail)
  go_wp2_with fail
  go_ret3
  exact ⟨oa, co, rfl, HG.out, draws_below HB.out _⟩

theorem zz_scan (w : World) (v : Value) (zs : List Int) (a s e : Nat) (ok : Bool) (hn : zs.length ≤ 10000000) (hF : Full w v zs) (hr : Run zs a s e) :
    Calls Trym.prog 7 #[v, .int .i64 (a : Int), .bool ok] w fun r w' => ∃ oa co, r = .returned (.tuple #[.slice oa (e - a) co, .int .i64 (e : Int), .bool (ok && okOf zs s e)]) ∧ RdAt w' oa (e - a) a zs ∧ Below w.heap.size w w' := by
  rcases hF with ⟨rfl, rfl⟩ | ⟨g, rfl, hg, hc⟩
  · have h1 := hr.en
    have h2 := hr.se
    have h3 := hr.sgn
    simp at h1
    subst h1
    obtain rfl : a = 0 := by rcases h3 with ⟨h, h', _⟩ | ⟨_, h, _⟩ | ⟨_, h⟩ <;> simp_all
    obtain rfl : s = 0 := by omega
    rw [okOf_end]
    refine (zz_of w _ ⟨_, _, _, rfl⟩ 0 0 ok false 0 (fun _ => True) (.slice none 0 0) fun w1 hS _ => (digits_nil _ w1 ok hS).mono ?_).mono ?_
    · rintro r w' ⟨oa, co, h1, h2, h3⟩
      exact ⟨oa, co, h1, trivial, h2, h3⟩
    · rintro r w' ⟨oa, co, h1, _, h3⟩
      exact ⟨oa, co, h1, .inl rfl, h3⟩
  · refine (zz_of w _ ⟨_, _, _, rfl⟩ a e ok (ok && okOf zs s e) (e - a) (fun oa => e - a = 0 ∨ oa = some ⟨g, a, none⟩) (.slice (some ⟨g, 0, none⟩) zs.length zs.length) fun w1 hS hb => (digits_any _ g w1 zs a s e ok hn hS hg (fun j hj => (hb.cell (p := ⟨g, j, none⟩) hg).trans (hc j hj)) hr).mono ?_).mono ?_
    · rintro r w' ⟨oa, co, h1, h2, h3, h4⟩
      exact ⟨oa, co, h1, h2, h3, h4⟩
    · rintro r w' ⟨oa, co, h1, h2, h3⟩
      refine ⟨oa, co, h1, ?_, h3⟩
      rcases h2 with h2 | h2
      · exact .inl h2
      · exact .inr ⟨g, h2, fun j h4 h5 => (h3.cell (p := ⟨g, j, none⟩) hg).trans (hc j (by have := hr.en; omega))⟩

end Go.Proofs.Qxb6604095aMods
