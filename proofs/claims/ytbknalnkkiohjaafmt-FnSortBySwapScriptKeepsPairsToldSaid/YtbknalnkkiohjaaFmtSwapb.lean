/-
  SortBy.Swap by a contract where both indices are one, and the contract for every pair of indices in range.
-/
import Derived.Test.YtbknalnkkiohjaaFmtSwap
namespace Go.Proofs.YtbknalnkkiohjaaFmt
open Go.RowKit
set_option linter.unusedVariables false

set_option maxHeartbeats 800000 in
theorem swap_eq (p q1 q2 n i : Nat) (f g : Nat → Int) (w : World) (h : ByAt w p q1 q2 n f g) (hn : n ≤ 65536) (hi : i < n) :
    Calls Tryf.prog 8 #[.pointer (some ⟨p, 0, none⟩), .int .i64 i, .int .i64 i] w fun e w' => e = .returned (.tuple #[]) ∧ w' = exch (exch w q1 i i f) q2 i i g := by
  have h2 := by_exch1 i i h
  have hi' : (i : Int) < (n : Int) := by omega
  have ca := h.arr
  have c1 := h.r1.cell hi
  have f1 := h.r1.frozen i
  obtain ⟨u, hu⟩ : ∃ u, f i = u := ⟨_, rfl⟩
  rw [hu] at c1
  have c2 : (w.setCell ⟨q1, i, none⟩ (.iface 3 (.int .i64 u))).cell? ⟨q1, i, none⟩ = some (.iface 3 (.int .i64 u)) := World.cell?_setCell_same w _ _ c1
  have E : Hid (exch w q1 i i f = ((w.setCell ⟨q1, i, none⟩ (.iface 3 (.int .i64 u))).setCell ⟨q1, i, none⟩ (.iface 3 (.int .i64 u))).drew) := by rw [← hu]; exact rfl
  have H2 := Lib.hid h2
  clear h2 h hu
  go_enter Tryf.func8, Tryf.ntmps8
  go_wp2
  go_region
  clear ca c1 c2 f1
  generalize hwq : ((w.setCell ⟨q1, i, none⟩ (.iface 3 (.int .i64 u))).setCell ⟨q1, i, none⟩ (.iface 3 (.int .i64 u))).drew = wq
  have E' : exch w q1 i i f = wq := E.out.trans hwq
  have h2 : ByAt wq p q1 q2 n (swp f i i) g := by rw [← E']; exact H2.out
  have EE := Lib.hid E'
  clear E H2 hwq E'
  have ca := h2.vals
  have c1 := h2.r2.cell hi
  have f1 := h2.r2.frozen i
  obtain ⟨u', hu⟩ : ∃ u, g i = u := ⟨_, rfl⟩
  rw [hu] at c1
  have c2 : (wq.setCell ⟨q2, i, none⟩ (.iface 3 (.int .i64 u'))).cell? ⟨q2, i, none⟩ = some (.iface 3 (.int .i64 u')) := World.cell?_setCell_same wq _ _ c1
  have E2 : Hid (exch (exch w q1 i i f) q2 i i g = ((wq.setCell ⟨q2, i, none⟩ (.iface 3 (.int .i64 u'))).setCell ⟨q2, i, none⟩ (.iface 3 (.int .i64 u'))).drew) := by rw [EE.out, ← hu]; exact rfl
  clear h2 hu
  go_wp2
  go_region
  all_goals (go_end0; exact ⟨rfl, E2.out.symm⟩)

theorem swap_any (p q1 q2 n i j : Nat) (f g : Nat → Int) (w : World) (h : ByAt w p q1 q2 n f g) (hn : n ≤ 65536) (hi : i < n) (hj : j < n) :
    Calls Tryf.prog 8 #[.pointer (some ⟨p, 0, none⟩), .int .i64 i, .int .i64 j] w fun e w' => e = .returned (.tuple #[]) ∧ ByAt w' p q1 q2 n (swp f i j) (swp g i j) ∧ Kept2 w w' q1 q2 := by
  have hk : Kept2 w (exch (exch w q1 i j f) q2 i j g) q1 q2 :=
    ⟨rfl, rfl, rfl, by rw [exch_size, exch_size]; exact Nat.le_refl _, fun k h1 h2 => by rw [exch_block _ _ _ _ _ _ h2, exch_block _ _ _ _ _ _ h1]⟩
  have hb := by_exch2 i j (by_exch1 i j h)
  by_cases e : i = j
  · subst e
    refine (swap_eq p q1 q2 n i f g w h hn hi).mono ?_
    rintro e w' ⟨rfl, rfl⟩
    exact ⟨rfl, hb, hk⟩
  · refine (swap_ne p q1 q2 n i j f g w h hn hi hj e).mono ?_
    rintro e w' ⟨rfl, rfl⟩
    exact ⟨rfl, hb, hk⟩
end Go.Proofs.YtbknalnkkiohjaaFmt
