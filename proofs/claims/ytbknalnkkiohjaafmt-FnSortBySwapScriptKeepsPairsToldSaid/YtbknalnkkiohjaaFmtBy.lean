/-
  The callees of the laws on runtime.SortBy, each by a contract: the two makers of boxed lists, Swap, ToInt at a boxed int, the byte guards.
-/
import Derived.Test.YtbknalnkkiohjaaFmtProg
import Derived.Handy
import Derived.LoopTactic
import Derived.Deep.OwnRows
import Derived.Lib.Hide
import Derived.Deep.QuietTactic
import Derived.BigQuiet
import Derived.BigRegion
import Derived.WalkSpells
import Derived.WalkLawsBesides
import Derived.WalkKit
import Derived.ProofKit
import Derived.OpenShut
namespace Go.Proofs.YtbknalnkkiohjaaFmt
open Go.RowKit
set_option linter.unusedVariables false

theorem Tryf.info20 : (Tryf.prog.info? 20).map (fun i => (i.zero, i.size, i.bytes)) = some (some .nilIface, 1, 16) := by kernel_rfl
theorem Tryf.info4 : (Tryf.prog.info? 4).map (fun i => (i.zero, i.size, i.bytes)) = some (some (.bool false), 1, 1) := by kernel_rfl

/-- What is said of a list of ints that came in. -/
def Came (w : World) (a : Option Addr) (n : Nat) (f : Nat → Int) : Prop :=
  0 < n → ∃ b off, a = some ⟨b, off, none⟩ ∧ b < w.heap.size ∧ ∀ i, i < n → w.cell? ⟨b, off + i, none⟩ = some (.int .i64 (f i))

theorem came_of {w : World} {a : Option Addr} {len cap : Nat} {zs : List Int}
    (h : (a = none ∧ len = 0 ∧ cap = 0 ∧ zs = []) ∨ ∃ x, a = some x ∧ len ≤ cap ∧ cap ≤ maxLen ∧ zs.length = cap ∧ (∀ i, i < zs.length → w.cell? (x.add i) = some (.int .i64 (zs.getD i 0))) ∧ ∀ n ∈ zs, (Lit.int .i64 n).wf = true) :
    Came w a len (fun i => zs.getD i 0) := by
  intro hpos
  rcases h with ⟨_, h0, _, _⟩ | ⟨x, ha, hl, hm, hz, hcell, hwz⟩
  · omega
  · obtain ⟨b, off, spot⟩ := x
    have hc := hcell 0 (by omega)
    have hspot : spot = none := by simpa [Addr.add] using World.cell?_spot hc
    subst hspot
    refine ⟨b, off, ha, ?_, fun i hi => ?_⟩
    · have := World.block_lt_of_cell? _ _ hc
      simpa [Addr.add] using this
    · have h := hcell i (by omega)
      have e : (⟨b, off, none⟩ : Addr).add i = ⟨b, off + i, none⟩ := by
        unfold Addr.add
        by_cases h0 : i = 0
        · subst h0; rfl
        · simp [h0]
      rw [e] at h
      exact h

/-- What boxInts leaves. -/
def Boxed (w : World) (n : Nat) (f : Nat → Int) (e : Ending) (w' : World) : Prop :=
  ∃ a, e = .returned (.slice a n n) ∧ (0 < n → a = some ⟨w.heap.size, 0, none⟩ ∧ w'.rowIs w.heap.size 20 n (fun i => .iface 3 (.int .i64 (f i)))) ∧ Below w.heap.size w w'

theorem box_row (b off len cap : Nat) (f : Nat → Int) (w : World) (hle : len ≤ 65536) (hbw : b < w.heap.size) (hc : ∀ i, i < len → w.cell? ⟨b, off + i, none⟩ = some (.int .i64 (f i))) :
    Calls Tryf.prog 6 #[.slice (some ⟨b, off, none⟩) len cap] w fun e w' => e = .returned (.slice (some ⟨w.heap.size, 0, none⟩) len len) ∧ w'.rowIs w.heap.size 20 len (fun i => .iface 3 (.int .i64 (f i))) ∧ Below w.heap.size w w' := by
  have hmk := run_make_row' (P := Tryf.prog) 25 20 .nilIface 16 Tryf.underlying25 Tryf.info20 rfl .i64 .i64 len (by omega) (by omega)
  have hnil := fun (x : Addr) (n c : Nat) (v : World) => Lib.run_eql_slice_nil (P := Tryf.prog) v 22 3 (some x) n c 0 0 Tryf.underlying22
  have HC := Lib.hid hc
  clear hc
  go_enter Tryf.func6, Tryf.ntmps6
  go_wp2
  go_loopw [4] (fun i wr => ∃ k : Nat, k ≤ len ∧ i = .int .i64 k ∧ wr.rowIs w.heap.size 20 len (fun j => if j < k then .iface 3 (.int .i64 (f j)) else .nilIface) ∧ Below w.heap.size w wr)
    (fun i _ => len - (intOf i).toNat)
  case atStart => exact ⟨0, Nat.zero_le _, rfl, (World.rowIs_made w .nilIface len 20).congr (fun i _ => by simp), (Below.refl _ _).alloc (Nat.le_refl _) _⟩
  case round =>
    obtain ⟨k, hk, rfl, hrow, hb⟩ := hrel
    by_cases hlt : k < len
    · have hc : wr.cell? ⟨w.heap.size, k, none⟩ = some .nilIface := by have := hrow.cell hlt; simpa using this
      have hf := hrow.frozen k
      have hs : wr.cell? ⟨b, off + k, none⟩ = some (.int .i64 (f k)) := (hb.cell (p := ⟨b, off + k, none⟩) hbw).trans (HC.out k hlt)
      obtain ⟨x, hx⟩ : ∃ x, f k = x := ⟨_, rfl⟩
      rw [hx] at hs
      have R : (wr.setCell ⟨w.heap.size, k, none⟩ (.iface 3 (.int .i64 x))).rowIs w.heap.size 20 len (fun j => if j < k + 1 then .iface 3 (.int .i64 (f j)) else .nilIface) := by
        refine (hrow.set k _).congr (fun j hj => ?_)
        by_cases e : j = k
        · subst e; rw [if_pos rfl, if_pos (Nat.lt_succ_self _), hx]
        · by_cases l : j < k
          · rw [if_neg e, if_pos l, if_pos (Nat.lt_succ_of_lt l)]
          · rw [if_neg e, if_neg l, if_neg (by omega)]
      have HB := Lib.hid hb; clear hb
      have HR := Lib.hid R; clear R
      clear hrow hx
      go_wp2
      go_roundw
      case rel => exact ⟨k + 1, by omega, by go_num, HR.out, HB.out.setCell (Nat.le_refl _) _⟩
      case measure => simp [intOf]; omega
    · obtain rfl : k = len := by omega
      have HB := Lib.hid hb; clear hb
      have HW := Lib.hid hrow; clear hrow
      go_wp2
      go_ret
      exact ⟨rfl, HW.out.congr (fun j hj => by rw [if_pos hj]), HB.out⟩

theorem box_nil (w : World) : Calls Tryf.prog 6 #[.slice none 0 0] w fun e w' => e = .returned (.slice none 0 0) ∧ w = w' := by
  have hnil := fun (v : World) => Lib.run_eql_slice_nil (P := Tryf.prog) v 22 3 none 0 0 0 0 Tryf.underlying22
  go_enter Tryf.func6, Tryf.ntmps6
  go_wp2
  go_ret
  exact ⟨rfl, rfl⟩

theorem box_empty (x : Addr) (cap : Nat) (w : World) : Calls Tryf.prog 6 #[.slice (some x) 0 cap] w fun e w' => e = .returned (.slice (some ⟨w.heap.size, 0, none⟩) 0 0) ∧ Below w.heap.size w w' := by
  have hmk : ∀ v : World, (Instr.makeSlice 25 (.int .i64 0) (.int .i64 0)).run Tryf.prog v = .ok (.slice (some ⟨v.heap.size, 0, none⟩) 0 0) (v.alloc (.cells (madeCells #[.nilIface] 0) 20)) := fun v => run_make_row' (P := Tryf.prog) 25 20 .nilIface 16 Tryf.underlying25 Tryf.info20 rfl .i64 .i64 0 (by omega) (by omega) v
  have hnil := fun (x : Addr) (n c : Nat) (v : World) => Lib.run_eql_slice_nil (P := Tryf.prog) v 22 3 (some x) n c 0 0 Tryf.underlying22
  go_enter Tryf.func6, Tryf.ntmps6
  go_wp2
  go_rounds 1
  go_ret
  exact ⟨rfl, by go_grown⟩

theorem box_any (a : Option Addr) (len cap : Nat) (f : Nat → Int) (w : World) (hle : len ≤ 65536) (h0 : a = none → cap = 0) (h : Came w a len f) :
    Calls Tryf.prog 6 #[.slice a len cap] w (Boxed w len f) := by
  by_cases hp : 0 < len
  · obtain ⟨b, off, rfl, hbw, hc⟩ := h hp
    refine (box_row b off len cap f w hle hbw hc).mono ?_
    rintro e w' ⟨rfl, hr, hb⟩
    exact ⟨_, rfl, fun _ => ⟨rfl, hr⟩, hb⟩
  · obtain rfl : len = 0 := by omega
    cases a with
    | none =>
      obtain rfl := h0 rfl
      refine (box_nil w).mono ?_
      rintro e w' ⟨rfl, rfl⟩
      exact ⟨none, rfl, fun h => absurd h (by omega), Below.refl _ _⟩
    | some x =>
      refine (box_empty x cap w).mono ?_
      rintro e w' ⟨rfl, hb⟩
      exact ⟨_, rfl, fun h => absurd h (by omega), hb⟩

/-- boxIndices: the row 0, 1, .., n-1. -/
theorem idx_any (n : Nat) (w : World) (hle : n ≤ 65536) :
    Calls Tryf.prog 7 #[.int .i64 n] w fun e w' => e = .returned (.slice (some ⟨w.heap.size, 0, none⟩) n n) ∧ w'.rowIs w.heap.size 20 n (fun i => .iface 3 (.int .i64 (i : Int))) ∧ Below w.heap.size w w' := by
  have hmk := run_make_row' (P := Tryf.prog) 25 20 .nilIface 16 Tryf.underlying25 Tryf.info20 rfl .i64 .i64 n (by omega) (by omega)
  go_enter Tryf.func7, Tryf.ntmps7
  go_wp2
  go_loopw [4] (fun i wr => ∃ k : Nat, k ≤ n ∧ i = .int .i64 k ∧ wr.rowIs w.heap.size 20 n (fun j => if j < k then .iface 3 (.int .i64 (j : Int)) else .nilIface) ∧ Below w.heap.size w wr)
    (fun i _ => n - (intOf i).toNat)
  case atStart => exact ⟨0, Nat.zero_le _, rfl, (World.rowIs_made w .nilIface n 20).congr (fun i _ => by simp), (Below.refl _ _).alloc (Nat.le_refl _) _⟩
  case round =>
    obtain ⟨k, hk, rfl, hrow, hb⟩ := hrel
    by_cases hlt : k < n
    · have hc : wr.cell? ⟨w.heap.size, k, none⟩ = some .nilIface := by have := hrow.cell hlt; simpa using this
      have hf := hrow.frozen k
      have R : (wr.setCell ⟨w.heap.size, k, none⟩ (.iface 3 (.int .i64 (k : Int)))).rowIs w.heap.size 20 n (fun j => if j < k + 1 then .iface 3 (.int .i64 (j : Int)) else .nilIface) := by
        refine (hrow.set k _).congr (fun j hj => ?_)
        by_cases e : j = k
        · subst e; rw [if_pos rfl, if_pos (Nat.lt_succ_self _)]
        · by_cases l : j < k
          · rw [if_neg e, if_pos l, if_pos (Nat.lt_succ_of_lt l)]
          · rw [if_neg e, if_neg l, if_neg (by omega)]
      have HB := Lib.hid hb; clear hb
      have HR := Lib.hid R; clear R
      clear hrow
      go_wp2
      go_roundw
      case rel => exact ⟨k + 1, by omega, by go_num, HR.out, HB.out.setCell (Nat.le_refl _) _⟩
      case measure => simp [intOf]; omega
    · obtain rfl : k = n := by omega
      have HB := Lib.hid hb; clear hb
      have HW := Lib.hid hrow; clear hrow
      go_wp2
      go_ret
      exact ⟨rfl, HW.out.congr (fun j hj => by rw [if_pos hj]), HB.out⟩

theorem is3 (v : Value) (w : World) : (Instr.typeAssert (.iface 3 v) 20 3 true).run Tryf.prog w = .ok (.tuple #[v, .bool true]) w := by kernel_rfl
theorem no3_34 (v : Value) (w : World) : (Instr.typeAssert (.iface 3 v) 20 34 true).run Tryf.prog w = .ok (.tuple #[.float .f32 0, .bool false]) w := by kernel_rfl
theorem no3_35 (v : Value) (w : World) : (Instr.typeAssert (.iface 3 v) 20 35 true).run Tryf.prog w = .ok (.tuple #[.float .f64 0, .bool false]) w := by kernel_rfl

/-- ToInt at a boxed int. -/
theorem toInt_int (x : Int) (w : World) : Calls Tryf.prog 9 #[.iface 3 (.int .i64 x)] w fun e w' => e = .returned (.int .i64 x) ∧ w' = w := by
  have h1 := no3_34
  have h2 := no3_35
  have h3 := is3
  go_enter Tryf.func9, Tryf.ntmps9
  go_wp2
  go_ret
  exact ⟨rfl, rfl⟩

theorem bytes5_yes (d : Bool) (a : Option Addr) (len cap : Nat) (x y : Int) (w : World) (h : len ≤ 1048576) :
    Calls Tryf.prog 5 #[.bool d, .slice a len cap, .int .i64 x, .int .i64 y] w fun e w' => e = .returned (.bool true) ∧ w = w' := by
  have h' : ¬ (1048576 : Int) < (len : Int) := by omega
  go_enter Tryf.func5, Tryf.ntmps5
  go_wp2
  go_ret
  exact ⟨rfl, rfl⟩
theorem bytes5_no (d : Bool) (a : Option Addr) (len cap : Nat) (x y : Int) (w : World) (h : ¬ len ≤ 1048576) :
    Calls Tryf.prog 5 #[.bool d, .slice a len cap, .int .i64 x, .int .i64 y] w fun e w' => e = .returned (.bool false) ∧ w = w' := by
  have h' : (1048576 : Int) < (len : Int) := by omega
  clear h
  go_enter Tryf.func5, Tryf.ntmps5
  go_wp2
  go_ret
  exact ⟨rfl, rfl⟩
theorem bytes10_yes (a : Option Addr) (len cap : Nat) (a' : Option Addr) (len' cap' : Nat) (w : World) (h : len + len' ≤ 1048576) :
    Calls Tryf.prog 10 #[.slice a len cap, .slice a' len' cap'] w fun e w' => e = .returned (.bool true) ∧ w = w' := by
  have h1 : ¬ (1048576 : Int) < (len : Int) := by omega
  have h2 : ¬ (1048576 : Int) < (len' : Int) := by omega
  have h3 : ¬ (1048576 : Int) < (len : Int) + (len' : Int) := by omega
  go_enter Tryf.func10, Tryf.ntmps10
  go_wp2
  go_ret
  exact ⟨rfl, rfl⟩
theorem bytes10_no (a : Option Addr) (len cap : Nat) (a' : Option Addr) (len' cap' : Nat) (w : World) (h : ¬ len + len' ≤ 1048576) :
    Calls Tryf.prog 10 #[.slice a len cap, .slice a' len' cap'] w fun e w' => e = .returned (.bool false) ∧ w = w' := by
  by_cases h1 : (1048576 : Int) < (len : Int)
  · clear h
    go_enter Tryf.func10, Tryf.ntmps10
    go_wp2
    go_ret
    exact ⟨rfl, rfl⟩
  · by_cases h2 : (1048576 : Int) < (len' : Int)
    · clear h
      go_enter Tryf.func10, Tryf.ntmps10
      go_wp2
      go_ret
      exact ⟨rfl, rfl⟩
    · have h3 : (1048576 : Int) < (len : Int) + (len' : Int) := by omega
      clear h
      go_enter Tryf.func10, Tryf.ntmps10
      go_wp2
      go_ret
      exact ⟨rfl, rfl⟩
end Go.Proofs.YtbknalnkkiohjaaFmt
