/-
  SortBy.Swap by a contract: both rows have the two places exchanged, and no other block has turned.
-/
import Derived.Test.YtbknalnkkiohjaaFmtBy
namespace Go.Proofs.YtbknalnkkiohjaaFmt
open Go.RowKit
set_option linter.unusedVariables false

def swp {α : Type} (f : Nat → α) (i j : Nat) : Nat → α := fun k => if k = i then f j else if k = j then f i else f k

/-- What is said of a SortBy: block p holds its fields, the second and the third lead to the rows q1, q2 of n boxed ints. -/
structure ByAt (w : World) (p q1 q2 n : Nat) (f g : Nat → Int) : Prop where
  arr : w.cell? ⟨p, 1, none⟩ = some (.slice (some ⟨q1, 0, none⟩) n n)
  vals : w.cell? ⟨p, 2, none⟩ = some (.slice (some ⟨q2, 0, none⟩) n n)
  p1 : p ≠ q1
  p2 : p ≠ q2
  q12 : q1 ≠ q2
  r1 : w.rowIs q1 20 n (fun i => .iface 3 (.int .i64 (f i)))
  r2 : w.rowIs q2 20 n (fun i => .iface 3 (.int .i64 (g i)))

/-- No block but q1 and q2 has turned. -/
structure Kept2 (w w' : World) (q1 q2 : Nat) : Prop where
  os : w'.os = w.os
  tape : w'.tape = w.tape
  output : w'.output = w.output
  size : w.heap.size ≤ w'.heap.size
  block : ∀ k, k ≠ q1 → k ≠ q2 → w'.heap[k]? = w.heap[k]?

theorem Kept2.below {w0 w w' : World} {B q1 q2 : Nat} (h : Kept2 w w' q1 q2) (hb : Below B w0 w) (h1 : B ≤ q1) (h2 : B ≤ q2) : Below B w0 w' :=
  ⟨h.os.trans hb.os, h.tape.trans hb.tape, h.output.trans hb.output, Nat.le_trans hb.size h.size, fun k hk => (h.block k (by omega) (by omega)).trans (hb.block k hk)⟩

/-- The world behind one exchange in row q. -/
def exch (w : World) (q i j : Nat) (f : Nat → Int) : World := ((w.setCell ⟨q, i, none⟩ (.iface 3 (.int .i64 (f j)))).setCell ⟨q, j, none⟩ (.iface 3 (.int .i64 (f i)))).drew

theorem exch_row {w : World} {q n : Nat} {f : Nat → Int} (i j : Nat) (hr : w.rowIs q 20 n (fun i => .iface 3 (.int .i64 (f i)))) :
    (exch w q i j f).rowIs q 20 n (fun k => .iface 3 (.int .i64 (swp f i j k))) := by
  refine (((hr.set i (.iface 3 (.int .i64 (f j)))).set j (.iface 3 (.int .i64 (f i)))).congr (fun k hk => ?_)).drew
  unfold swp
  by_cases a : k = j
  · by_cases b : k = i
    · subst a; subst b; simp
    · rw [if_pos a, if_neg b, if_pos a]
  · by_cases b : k = i
    · rw [if_neg a, if_pos b, if_pos b]
    · rw [if_neg a, if_neg b, if_neg b, if_neg a]

theorem exch_block (w : World) (q i j : Nat) (f : Nat → Int) (k : Nat) (h : k ≠ q) : (exch w q i j f).heap[k]? = w.heap[k]? := by
  show ((w.setCell _ _).setCell _ _).heap[k]? = _
  rw [Deep.blk_setCell_other _ _ _ _ h, Deep.blk_setCell_other _ _ _ _ h]

theorem exch_cell (w : World) (q i j : Nat) (f : Nat → Int) (a : Addr) (h : a.block ≠ q) : (exch w q i j f).cell? a = w.cell? a := World.cell?_of_block (exch_block w q i j f a.block h)

theorem exch_size (w : World) (q i j : Nat) (f : Nat → Int) : (exch w q i j f).heap.size = w.heap.size := by simp [exch]

theorem by_exch1 {w : World} {p q1 q2 n : Nat} {f g : Nat → Int} (i j : Nat) (h : ByAt w p q1 q2 n f g) : ByAt (exch w q1 i j f) p q1 q2 n (swp f i j) g :=
  ⟨(exch_cell w q1 i j f ⟨p, 1, none⟩ h.p1).trans h.arr, (exch_cell w q1 i j f ⟨p, 2, none⟩ h.p1).trans h.vals, h.p1, h.p2, h.q12, exch_row i j h.r1, h.r2.of_block (exch_block w q1 i j f q2 h.q12.symm)⟩
theorem by_exch2 {w : World} {p q1 q2 n : Nat} {f g : Nat → Int} (i j : Nat) (h : ByAt w p q1 q2 n f g) : ByAt (exch w q2 i j g) p q1 q2 n f (swp g i j) :=
  ⟨(exch_cell w q2 i j g ⟨p, 1, none⟩ h.p2).trans h.arr, (exch_cell w q2 i j g ⟨p, 2, none⟩ h.p2).trans h.vals, h.p1, h.p2, h.q12, h.r1.of_block (exch_block w q2 i j g q1 h.q12), exch_row i j h.r2⟩

set_option maxHeartbeats 800000 in
theorem swap_ne (p q1 q2 n i j : Nat) (f g : Nat → Int) (w : World) (h : ByAt w p q1 q2 n f g) (hn : n ≤ 65536) (hi : i < n) (hj : j < n) (hij : i ≠ j) :
    Calls Tryf.prog 8 #[.pointer (some ⟨p, 0, none⟩), .int .i64 i, .int .i64 j] w fun e w' => e = .returned (.tuple #[]) ∧ w' = exch (exch w q1 i j f) q2 i j g := by
  have h2 := by_exch1 i j h
  have hi' : (i : Int) < (n : Int) := by omega
  have hj' : (j : Int) < (n : Int) := by omega
  have ca := h.arr
  have c1 := h.r1.cell hi
  have c2 := h.r1.cell hj
  have f1 := h.r1.frozen i
  have f2 := h.r1.frozen j
  obtain ⟨u, hu⟩ : ∃ u, f i = u := ⟨_, rfl⟩
  obtain ⟨v, hv⟩ : ∃ v, f j = v := ⟨_, rfl⟩
  rw [hu] at c1
  rw [hv] at c2
  have E : Hid (exch w q1 i j f = ((w.setCell ⟨q1, i, none⟩ (.iface 3 (.int .i64 v))).setCell ⟨q1, j, none⟩ (.iface 3 (.int .i64 u))).drew) := by rw [← hu, ← hv]; exact rfl
  have H2 := Lib.hid h2
  clear h2 h hu hv
  go_enter Tryf.func8, Tryf.ntmps8
  go_wp2
  go_region
  clear ca c1 c2 f1 f2
  generalize hwq : ((w.setCell ⟨q1, i, none⟩ (.iface 3 (.int .i64 v))).setCell ⟨q1, j, none⟩ (.iface 3 (.int .i64 u))).drew = wq
  have E' : exch w q1 i j f = wq := E.out.trans hwq
  have h2 : ByAt wq p q1 q2 n (swp f i j) g := by rw [← E']; exact H2.out
  have EE := Lib.hid E'
  clear E H2 hwq E'
  have ca := h2.vals
  have c1 := h2.r2.cell hi
  have c2 := h2.r2.cell hj
  have f1 := h2.r2.frozen i
  have f2 := h2.r2.frozen j
  obtain ⟨u', hu⟩ : ∃ u, g i = u := ⟨_, rfl⟩
  obtain ⟨v', hv⟩ : ∃ v, g j = v := ⟨_, rfl⟩
  rw [hu] at c1
  rw [hv] at c2
  have E2 : Hid (exch (exch w q1 i j f) q2 i j g = ((wq.setCell ⟨q2, i, none⟩ (.iface 3 (.int .i64 v'))).setCell ⟨q2, j, none⟩ (.iface 3 (.int .i64 u'))).drew) := by rw [EE.out, ← hu, ← hv]; exact rfl
  clear h2 hu hv
  go_wp2
  go_region
  all_goals (go_end0; exact ⟨rfl, E2.out.symm⟩)
end Go.Proofs.YtbknalnkkiohjaaFmt
