/-
  The callees of the laws on runtime.Sort, each by a contract: the copy of the list, the sorter's making, Swap, Len, the reading of one element.
-/
import Derived.Test.YtkadajmpmmcnaaaProg
import Derived.Handy
import Derived.LoopTactic
import Derived.Deep.OwnRows
import Derived.Lib.Hide
import Derived.Deep.QuietTactic
import Derived.BigQuiet
import Derived.BigRegion
import Derived.ChangeAlike
import Derived.WalkSpells
namespace Go.Proofs.Ytkadajmpmmcnaaa
open Go.RowKit
set_option linter.unusedVariables false

theorem Try.info3 : (Try.prog.info? 3).map (fun i => (i.zero, i.size, i.bytes)) = some (some (.int .i64 0), 1, 8) := by kernel_rfl
theorem Try.info20 : (Try.prog.info? 20).map (fun i => (i.zero, i.size, i.bytes)) = some (some .nilIface, 1, 16) := by kernel_rfl

/-- What is said of a sorter: block p holds its two fields, the second leads to the row q of n boxed ints. -/
def SortAt (w : World) (p q n : Nat) (f : Nat → Int) : Prop :=
  w.cell? ⟨p, 1, none⟩ = some (.slice (some ⟨q, 0, none⟩) n n) ∧ p ≠ q ∧ w.rowIs q 20 n (fun i => .iface 3 (.int .i64 (f i)))

/-- The exchange of two places. -/
def swp (f : Nat → Int) (i j : Nat) : Nat → Int := fun k => if k = i then f j else if k = j then f i else f k

/-- zzCloneInts of a slice that is not nil: a new row with the same numbers. -/
theorem clone_row (b off len cap : Nat) (zs : List Int) (w : World) (hle : len ≤ 131072) (hc : ∀ i, i < len → w.cell? ⟨b, off + i, none⟩ = some (.int .i64 (zs.getD i 0))) (hbw : b < w.heap.size) :
    Calls Try.prog 8 #[.slice (some ⟨b, off, none⟩) len cap] w fun e w' => e = .returned (.slice (some ⟨w.heap.size, 0, none⟩) len len) ∧ w'.rowIs w.heap.size 3 len (fun i => .int .i64 (zs.getD i 0)) ∧ Below w.heap.size w w' := by
  have hmk := run_make_row' (P := Try.prog) 22 3 (.int .i64 0) 8 Try.underlying22 Try.info3 rfl .i64 .i64 len (by omega) (by omega)
  have hnil := fun (x : Addr) (n c : Nat) (v : World) => Lib.run_eql_slice_nil (P := Try.prog) v 22 3 (some x) n c 0 0 Try.underlying22
  have HC := Lib.hid hc
  clear hc
  go_enter Try.func8, Try.ntmps8
  go_wp2
  go_loopw [4] (fun i wr => ∃ k : Nat, k ≤ len ∧ i = .int .i64 k ∧ wr.rowIs w.heap.size 3 len (fun j => if j < k then .int .i64 (zs.getD j 0) else .int .i64 0) ∧ Below w.heap.size w wr)
    (fun i _ => len - (intOf i).toNat)
  case atStart => exact ⟨0, Nat.zero_le _, rfl, (World.rowIs_made w (.int .i64 0) len 3).congr (fun i _ => by simp), (Below.refl _ _).alloc (Nat.le_refl _) _⟩
  case round =>
    obtain ⟨k, hk, rfl, hrow, hb⟩ := hrel
    by_cases hlt : k < len
    · have hc : wr.cell? ⟨w.heap.size, k, none⟩ = some (.int .i64 0) := by have := hrow.cell hlt; simpa using this
      have hf := hrow.frozen k
      have hs : wr.cell? ⟨b, off + k, none⟩ = some (.int .i64 (zs.getD k 0)) := (hb.cell (p := ⟨b, off + k, none⟩) hbw).trans (HC.out k hlt)
      obtain ⟨x, hx⟩ : ∃ x, zs.getD k 0 = x := ⟨_, rfl⟩
      rw [hx] at hs
      have R : (wr.setCell ⟨w.heap.size, k, none⟩ (.int .i64 x)).rowIs w.heap.size 3 len (fun j => if j < k + 1 then .int .i64 (zs.getD j 0) else .int .i64 0) := by
        refine (hrow.set k _).congr (fun j hj => ?_)
        by_cases e : j = k
        · subst e; rw [if_pos rfl, if_pos (Nat.lt_succ_self _), hx]
        · by_cases l : j < k
          · rw [if_neg e, if_pos l, if_pos (Nat.lt_succ_of_lt l)]
          · rw [if_neg e, if_neg l, if_neg (by omega)]
      have HB := Lib.hid hb; clear hb
      have HR := Lib.hid R; clear R
      clear hrow hx
      go_wp2
      go_roundw
      case rel => exact ⟨k + 1, by omega, by go_num, HR.out, HB.out.setCell (Nat.le_refl _) _⟩
      case measure => simp [intOf]; omega
    · obtain rfl : k = len := by omega
      have HB := Lib.hid hb; clear hb
      have HW := Lib.hid hrow; clear hrow
      go_wp2
      go_ret
      exact ⟨rfl, HW.out.congr (fun j hj => by rw [if_pos hj]), HB.out⟩

/-- zzCloneInts of nil: nil. -/
theorem clone_nil (w : World) :
    Calls Try.prog 8 #[.slice none 0 0] w fun e w' => e = .returned (.slice none 0 0) ∧ w = w' := by
  have hnil := fun (v : World) => Lib.run_eql_slice_nil (P := Try.prog) v 22 3 none 0 0 0 0 Try.underlying22
  go_enter Try.func8, Try.ntmps8
  go_wp2
  go_ret
  exact ⟨rfl, rfl⟩

/-- ZZnewSort of a row: a new row of boxed ints, a new struct that leads to it. -/
theorem new_row (d : Bool) (b n cap : Nat) (f : Nat → Int) (w : World) (hle : n ≤ 131072) (hc : w.rowIs b 3 n (fun i => .int .i64 (f i))) :
    Calls Try.prog 9 #[.bool d, .slice (some ⟨b, 0, none⟩) n cap] w fun e w' => e = .returned (.pointer (some ⟨w.heap.size + 1, 0, none⟩)) ∧ SortAt w' (w.heap.size + 1) w.heap.size n f ∧ Below w.heap.size w w' := by
  have hmk := run_make_row' (P := Try.prog) 33 20 .nilIface 16 Try.underlying33 Try.info20 rfl .i64 .i64 n (by omega) (by omega)
  have HC := Lib.hid hc
  clear hc
  go_enter Try.func9, Try.ntmps9
  go_wp2
  go_loopw [6] (fun i wr => ∃ k : Nat, k ≤ n ∧ i = .int .i64 k ∧ wr.rowIs w.heap.size 20 n (fun j => if j < k then .iface 3 (.int .i64 (f j)) else .nilIface) ∧ Below w.heap.size w wr ∧ wr.heap.size = w.heap.size + 1)
    (fun i _ => n - (intOf i).toNat)
  case atStart => exact ⟨0, Nat.zero_le _, rfl, (World.rowIs_made w .nilIface n 20).congr (fun i _ => by simp), (Below.refl _ _).alloc (Nat.le_refl _) _, by simp⟩
  case round =>
    obtain ⟨k, hk, rfl, hrow, hb, hsz⟩ := hrel
    have HZ := Lib.hid hsz; clear hsz
    by_cases hlt : k < n
    · have hc : wr.cell? ⟨w.heap.size, k, none⟩ = some .nilIface := by have := hrow.cell hlt; simpa using this
      have hf := hrow.frozen k
      have hs : wr.cell? ⟨b, k, none⟩ = some (.int .i64 (f k)) := (hb.cell (p := ⟨b, k, none⟩) HC.out.lt).trans (HC.out.cell hlt)
      obtain ⟨x, hx⟩ : ∃ x, f k = x := ⟨_, rfl⟩
      rw [hx] at hs
      have R : (wr.setCell ⟨w.heap.size, k, none⟩ (.iface 3 (.int .i64 x))).rowIs w.heap.size 20 n (fun j => if j < k + 1 then .iface 3 (.int .i64 (f j)) else .nilIface) := by
        refine (hrow.set k _).congr (fun j hj => ?_)
        by_cases e : j = k
        · subst e; rw [if_pos rfl, if_pos (Nat.lt_succ_self _), hx]
        · by_cases l : j < k
          · rw [if_neg e, if_pos l, if_pos (Nat.lt_succ_of_lt l)]
          · rw [if_neg e, if_neg l, if_neg (by omega)]
      have HB := Lib.hid hb; clear hb
      have HR := Lib.hid R; clear R
      clear hrow hx
      go_wp2
      go_roundw
      case rel => exact ⟨k + 1, by omega, by go_num, HR.out, HB.out.setCell (Nat.le_refl _) _, by simpa using HZ.out⟩
      case measure => simp [intOf]; omega
    · obtain rfl : k = n := by omega
      have HB := Lib.hid hb; clear hb
      have HW := Lib.hid hrow; clear hrow
      go_wp2
      go_ret
      refine ⟨by rw [HZ.out]; rfl, ⟨?_, by omega, (HW.out.congr (fun j hj => by rw [if_pos hj])).alloc _⟩, HB.out.alloc HB.out.size _⟩
      rw [← HZ.out]
      simp

/-- ZZnewSort of nil: an empty row, a new struct that leads to it. -/
theorem new_nil (d : Bool) (f : Nat → Int) (w : World) :
    Calls Try.prog 9 #[.bool d, .slice none 0 0] w fun e w' => e = .returned (.pointer (some ⟨w.heap.size + 1, 0, none⟩)) ∧ SortAt w' (w.heap.size + 1) w.heap.size 0 f ∧ Below w.heap.size w w' := by
  have hmk : ∀ v : World, (Instr.makeSlice 33 (.int .i64 0) (.int .i64 0)).run Try.prog v = .ok (.slice (some ⟨v.heap.size, 0, none⟩) 0 0) (v.alloc (.cells (madeCells #[.nilIface] 0) 20)) := fun v => run_make_row' (P := Try.prog) 33 20 .nilIface 16 Try.underlying33 Try.info20 rfl .i64 .i64 0 (by omega) (by omega) v
  go_enter Try.func9, Try.ntmps9
  go_wp2
  go_rounds 1
  go_ret
  refine ⟨rfl, ⟨?_, by omega, ?_⟩, by go_grown⟩
  · simp
  · exact ((World.rowIs_made w .nilIface 0 20).congr (fun i hi => absurd hi (by omega))).alloc _

theorem swap_ne (p q n i j : Nat) (u v : Value) (w : World) (hp : w.cell? ⟨p, 1, none⟩ = some (.slice (some ⟨q, 0, none⟩) n n)) (hn : n ≤ 131072) (hi : i < n) (hj : j < n) (hij : i ≠ j)
    (ci : w.cell? ⟨q, i, none⟩ = some (.iface 3 u)) (cj : w.cell? ⟨q, j, none⟩ = some (.iface 3 v)) (fi : w.frozen? ⟨q, i, none⟩ = false) (fj : w.frozen? ⟨q, j, none⟩ = false) :
    Calls Try.prog 10 #[.pointer (some ⟨p, 0, none⟩), .int .i64 i, .int .i64 j] w fun e w' => e = .returned (.tuple #[]) ∧ w' = ((w.setCell ⟨q, i, none⟩ (.iface 3 v)).setCell ⟨q, j, none⟩ (.iface 3 u)).drew := by
  have hi' : (i : Int) < (n : Int) := by omega
  have hj' : (j : Int) < (n : Int) := by omega
  go_enter Try.func10, Try.ntmps10
  go_wp2
  go_region
  all_goals (go_end0; exact ⟨rfl, rfl⟩)

theorem swap_eq (p q n i : Nat) (u : Value) (w : World) (hp : w.cell? ⟨p, 1, none⟩ = some (.slice (some ⟨q, 0, none⟩) n n)) (hn : n ≤ 131072) (hi : i < n)
    (ci : w.cell? ⟨q, i, none⟩ = some (.iface 3 u)) (fi : w.frozen? ⟨q, i, none⟩ = false) :
    Calls Try.prog 10 #[.pointer (some ⟨p, 0, none⟩), .int .i64 i, .int .i64 i] w fun e w' => e = .returned (.tuple #[]) ∧ w' = ((w.setCell ⟨q, i, none⟩ (.iface 3 u)).setCell ⟨q, i, none⟩ (.iface 3 u)).drew := by
  have hi' : (i : Int) < (n : Int) := by omega
  have c2 : (w.setCell ⟨q, i, none⟩ (.iface 3 u)).cell? ⟨q, i, none⟩ = some (.iface 3 u) := World.cell?_setCell_same w _ _ ci
  go_enter Try.func10, Try.ntmps10
  go_wp2
  go_region
  all_goals (go_end0; exact ⟨rfl, rfl⟩)

theorem swp_row (p q n i j : Nat) (f : Nat → Int) (w : World) (h : SortAt w p q n f) :
    SortAt (((w.setCell ⟨q, i, none⟩ (.iface 3 (.int .i64 (f j)))).setCell ⟨q, j, none⟩ (.iface 3 (.int .i64 (f i)))).drew) p q n (swp f i j) := by
  obtain ⟨hp, hpq, hr⟩ := h
  refine ⟨?_, hpq, (((hr.set i (.iface 3 (.int .i64 (f j)))).set j (.iface 3 (.int .i64 (f i)))).congr (fun k hk => ?_)).drew⟩
  · have e1 : (⟨q, i, none⟩ : Addr) ≠ ⟨p, 1, none⟩ := by intro e; injection e with e _ _; exact hpq e.symm
    have e2 : (⟨q, j, none⟩ : Addr) ≠ ⟨p, 1, none⟩ := by intro e; injection e with e _ _; exact hpq e.symm
    show ((w.setCell ⟨q, i, none⟩ _).setCell ⟨q, j, none⟩ _).cell? ⟨p, 1, none⟩ = _
    rw [World.cell?_setCell_other _ _ _ _ e2, World.cell?_setCell_other _ _ _ _ e1]
    exact hp
  · unfold swp
    by_cases a : k = j
    · by_cases b : k = i
      · subst a; subst b; simp
      · rw [if_pos a, if_neg b, if_pos a]
    · by_cases b : k = i
      · rw [if_neg a, if_pos b, if_pos b]
      · rw [if_neg a, if_neg b, if_neg b, if_neg a]

/-- Swap(i, j): the two places exchanged; no block but the row has turned. -/
theorem swap_any (p q n i j : Nat) (f : Nat → Int) (w : World) (h : SortAt w p q n f) (hn : n ≤ 131072) (hi : i < n) (hj : j < n) :
    Calls Try.prog 10 #[.pointer (some ⟨p, 0, none⟩), .int .i64 i, .int .i64 j] w fun e w' => e = .returned (.tuple #[]) ∧ SortAt w' p q n (swp f i j) ∧ w.grownBy w' (some q) := by
  have hg : ∀ u v : Value, w.grownBy (((w.setCell ⟨q, i, none⟩ u).setCell ⟨q, j, none⟩ v).drew) (some q) := fun u v =>
    ⟨rfl, rfl, rfl, by simp, fun k hk hne => by
      have e : k ≠ q := fun e => hne (by rw [e])
      show ((w.setCell _ _).setCell _ _).heap[k]? = _
      rw [Deep.blk_setCell_other _ _ _ _ e, Deep.blk_setCell_other _ _ _ _ e]⟩
  by_cases e : i = j
  · subst e
    refine (swap_eq p q n i (.int .i64 (f i)) w h.1 hn hi (h.2.2.cell hi) (h.2.2.frozen i)).mono ?_
    rintro e w' ⟨rfl, rfl⟩
    exact ⟨rfl, swp_row p q n i i f w h, hg _ _⟩
  · refine (swap_ne p q n i j (.int .i64 (f i)) (.int .i64 (f j)) w h.1 hn hi hj e (h.2.2.cell hi) (h.2.2.cell hj) (h.2.2.frozen i) (h.2.2.frozen j)).mono ?_
    rintro e w' ⟨rfl, rfl⟩
    exact ⟨rfl, swp_row p q n i j f w h, hg _ _⟩

/-- Len. -/
theorem len_any (p q n : Nat) (f : Nat → Int) (w : World) (h : SortAt w p q n f) :
    Calls Try.prog 13 #[.pointer (some ⟨p, 0, none⟩)] w fun e w' => e = .returned (.int .i64 n) ∧ w = w' := by
  have hp := h.1
  clear h
  go_enter Try.func13, Try.ntmps13
  go_wp2
  go_ret
  exact ⟨rfl, rfl⟩

theorem assert_int (v : Value) (w : World) : (Instr.typeAssert (.iface 3 v) 20 3 false).run Try.prog w = .ok v w := by kernel_rfl

/-- The element k. -/
theorem at_any (p q n k : Nat) (f : Nat → Int) (w : World) (h : SortAt w p q n f) (hk : k < n) :
    Calls Try.prog 11 #[.pointer (some ⟨p, 0, none⟩), .int .i64 k] w fun e w' => e = .returned (.int .i64 (f k)) ∧ w = w' := by
  have hp := h.1
  have hc := h.2.2.cell hk
  have hk' : (k : Int) < (n : Int) := by omega
  clear h
  obtain ⟨x, hx⟩ : ∃ x, f k = x := ⟨_, rfl⟩
  rw [hx] at hc
  rw [hx]
  clear hx
  have ha := assert_int
  go_enter Try.func11, Try.ntmps11
  go_wp2
  go_ret
  exact ⟨rfl, rfl⟩

/-- zzInRange. -/
theorem in_yes (k : Int) (n : Nat) (w : World) (h0 : 0 ≤ k) (h1 : k < (n : Int)) :
    Calls Try.prog 7 #[.int .i64 k, .int .i64 n] w fun e w' => e = .returned (.bool true) ∧ w = w' := by
  go_enter Try.func7, Try.ntmps7
  go_wp2
  go_ret
  exact ⟨rfl, rfl⟩
theorem in_no (k : Int) (n : Nat) (w : World) (h : ¬ (0 ≤ k ∧ k < (n : Int))) :
    Calls Try.prog 7 #[.int .i64 k, .int .i64 n] w fun e w' => e = .returned (.bool false) ∧ w = w' := by
  by_cases h0 : 0 ≤ k
  · have h1 : ¬ k < (n : Int) := fun h1 => h ⟨h0, h1⟩
    clear h
    go_enter Try.func7, Try.ntmps7
    go_wp2
    go_ret
    exact ⟨rfl, rfl⟩
  · clear h
    go_enter Try.func7, Try.ntmps7
    go_wp2
    go_ret
    exact ⟨rfl, rfl⟩
end Go.Proofs.Ytkadajmpmmcnaaa
