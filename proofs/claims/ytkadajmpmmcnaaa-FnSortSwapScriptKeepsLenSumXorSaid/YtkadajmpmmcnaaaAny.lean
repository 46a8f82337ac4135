/-
  The copy of a list and the sorter's making for every list, nil and empty ones too; the byte guard of the script law.
-/
import Derived.Test.YtkadajmpmmcnaaaGuards
namespace Go.Proofs.Ytkadajmpmmcnaaa
open Go.RowKit
set_option linter.unusedVariables false

/-- A slice of n ints of the call's own: if it holds anything, it is a row from block B on. -/
def Own (w : World) (B : Nat) (a : Option Addr) (n : Nat) (f : Nat → Int) : Prop :=
  0 < n → ∃ b, a = some ⟨b, 0, none⟩ ∧ B ≤ b ∧ w.rowIs b 3 n (fun i => .int .i64 (f i))

theorem Own.kept {w w' : World} {B n : Nat} {a : Option Addr} {f : Nat → Int} (h : Own w B a n f) (e : ∀ b, B ≤ b → b < w.heap.size → w'.heap[b]? = w.heap[b]?) : Own w' B a n f := by
  intro hn
  obtain ⟨b, ha, hB, hr⟩ := h hn
  exact ⟨b, ha, hB, hr.of_block (e b hB hr.lt)⟩

/-- What zzCloneInts leaves. -/
def Cloned (w : World) (len : Nat) (zs : List Int) (e : Ending) (w' : World) : Prop :=
  ∃ a, e = .returned (.slice a len len) ∧ Own w' w.heap.size a len (fun i => zs.getD i 0) ∧ Below w.heap.size w w'

theorem clone_empty (x : Addr) (cap : Nat) (w : World) :
    Calls Try.prog 8 #[.slice (some x) 0 cap] w fun e w' => e = .returned (.slice (some ⟨w.heap.size, 0, none⟩) 0 0) ∧ Below w.heap.size w w' := by
  have hmk : ∀ v : World, (Instr.makeSlice 22 (.int .i64 0) (.int .i64 0)).run Try.prog v = .ok (.slice (some ⟨v.heap.size, 0, none⟩) 0 0) (v.alloc (.cells (madeCells #[.int .i64 0] 0) 3)) := fun v => run_make_row' (P := Try.prog) 22 3 (.int .i64 0) 8 Try.underlying22 Try.info3 rfl .i64 .i64 0 (by omega) (by omega) v
  have hnil := fun (x : Addr) (n c : Nat) (v : World) => Lib.run_eql_slice_nil (P := Try.prog) v 22 3 (some x) n c 0 0 Try.underlying22
  go_enter Try.func8, Try.ntmps8
  go_wp2
  go_rounds 1
  go_ret
  exact ⟨rfl, by go_grown⟩

theorem clone_any (a : Option Addr) (len cap : Nat) (zs : List Int) (w : World) (hle : len ≤ 131072)
    (h : (a = none ∧ len = 0 ∧ cap = 0 ∧ zs = []) ∨ ∃ x, a = some x ∧ len ≤ cap ∧ cap ≤ maxLen ∧ zs.length = cap ∧ (∀ i, i < zs.length → w.cell? (x.add i) = some (.int .i64 (zs.getD i 0))) ∧ ∀ n ∈ zs, (Lit.int .i64 n).wf = true) :
    Calls Try.prog 8 #[.slice a len cap] w (Cloned w len zs) := by
  rcases h with ⟨rfl, rfl, rfl, rfl⟩ | ⟨x, rfl, hl, hm, hz, hcell, hwz⟩
  · refine (clone_nil w).mono ?_
    rintro e w' ⟨rfl, rfl⟩
    exact ⟨none, rfl, fun h => absurd h (by omega), Below.refl _ _⟩
  · by_cases h0 : 0 < len
    · obtain ⟨b, off, rfl, hbw, hc⟩ := open_row hl hz h0 hcell
      refine (clone_row b off len cap zs w hle hc hbw).mono ?_
      rintro e w' ⟨rfl, hr, hb⟩
      exact ⟨_, rfl, fun _ => ⟨_, rfl, Nat.le_refl _, hr⟩, hb⟩
    · obtain rfl : len = 0 := by omega
      refine (clone_empty x cap w).mono ?_
      rintro e w' ⟨rfl, hb⟩
      exact ⟨_, rfl, fun h => absurd h (by omega), hb⟩

theorem new_zero (d : Bool) (a : Option Addr) (cap : Nat) (f : Nat → Int) (w : World) :
    Calls Try.prog 9 #[.bool d, .slice a 0 cap] w fun e w' => e = .returned (.pointer (some ⟨w.heap.size + 1, 0, none⟩)) ∧ SortAt w' (w.heap.size + 1) w.heap.size 0 f ∧ Below w.heap.size w w' := by
  have hmk : ∀ v : World, (Instr.makeSlice 33 (.int .i64 0) (.int .i64 0)).run Try.prog v = .ok (.slice (some ⟨v.heap.size, 0, none⟩) 0 0) (v.alloc (.cells (madeCells #[.nilIface] 0) 20)) := fun v => run_make_row' (P := Try.prog) 33 20 .nilIface 16 Try.underlying33 Try.info20 rfl .i64 .i64 0 (by omega) (by omega) v
  go_enter Try.func9, Try.ntmps9
  go_wp2
  go_rounds 1
  go_ret
  refine ⟨rfl, ⟨?_, by omega, ?_⟩, by go_grown⟩
  · simp
  · exact ((World.rowIs_made w .nilIface 0 20).congr (fun i hi => absurd hi (by omega))).alloc _

theorem new_any (d : Bool) (a : Option Addr) (B n cap : Nat) (f : Nat → Int) (w : World) (hle : n ≤ 131072) (h : Own w B a n f) :
    Calls Try.prog 9 #[.bool d, .slice a n cap] w fun e w' => e = .returned (.pointer (some ⟨w.heap.size + 1, 0, none⟩)) ∧ SortAt w' (w.heap.size + 1) w.heap.size n f ∧ Below w.heap.size w w' := by
  by_cases h0 : 0 < n
  · obtain ⟨b, rfl, _, hr⟩ := h h0
    exact new_row d b n cap f w hle hr
  · obtain rfl : n = 0 := by omega
    exact new_zero d a cap f w

theorem bytes14_yes (d : Bool) (a : Option Addr) (len cap : Nat) (a' : Option Addr) (len' cap' : Nat) (w : World) (h : len + len' ≤ 1048576) :
    Calls Try.prog 14 #[.bool d, .slice a len cap, .slice a' len' cap'] w fun e w' => e = .returned (.bool true) ∧ w = w' := by
  have h1 : ¬ (1048576 : Int) < (len : Int) := by omega
  have h2 : ¬ (1048576 : Int) < (len' : Int) := by omega
  have h3 : ¬ (1048576 : Int) < (len : Int) + (len' : Int) := by omega
  go_enter Try.func14, Try.ntmps14
  go_wp2
  go_ret
  exact ⟨rfl, rfl⟩
theorem bytes14_no (d : Bool) (a : Option Addr) (len cap : Nat) (a' : Option Addr) (len' cap' : Nat) (w : World) (h : ¬ len + len' ≤ 1048576) :
    Calls Try.prog 14 #[.bool d, .slice a len cap, .slice a' len' cap'] w fun e w' => e = .returned (.bool false) ∧ w = w' := by
  by_cases h1 : (1048576 : Int) < (len : Int)
  · clear h
    go_enter Try.func14, Try.ntmps14
    go_wp2
    go_ret
    exact ⟨rfl, rfl⟩
  · by_cases h2 : (1048576 : Int) < (len' : Int)
    · clear h
      go_enter Try.func14, Try.ntmps14
      go_wp2
      go_ret
      exact ⟨rfl, rfl⟩
    · have h3 : (1048576 : Int) < (len : Int) + (len' : Int) := by omega
      clear h
      go_enter Try.func14, Try.ntmps14
      go_wp2
      go_ret
      exact ⟨rfl, rfl⟩
end Go.Proofs.Ytkadajmpmmcnaaa
