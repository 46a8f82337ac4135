/-
  The guards of the laws on runtime.Sort by contracts, and how an argument that is a list of ints is opened.
-/
import Derived.Test.YtkadajmpmmcnaaaSort
import Derived.WalkKit
import Derived.ProofKit
import Derived.OpenShut
namespace Go.Proofs.Ytkadajmpmmcnaaa
open Go.RowKit
set_option linter.unusedVariables false

theorem bytes6_yes (d : Bool) (a : Option Addr) (len cap : Nat) (x y : Int) (w : World) (h : len ≤ 1048576) :
    Calls Try.prog 6 #[.bool d, .slice a len cap, .int .i64 x, .int .i64 y] w fun e w' => e = .returned (.bool true) ∧ w = w' := by
  have h' : ¬ (1048576 : Int) < (len : Int) := by omega
  go_enter Try.func6, Try.ntmps6
  go_wp2
  go_ret
  exact ⟨rfl, rfl⟩
theorem bytes6_no (d : Bool) (a : Option Addr) (len cap : Nat) (x y : Int) (w : World) (h : ¬ len ≤ 1048576) :
    Calls Try.prog 6 #[.bool d, .slice a len cap, .int .i64 x, .int .i64 y] w fun e w' => e = .returned (.bool false) ∧ w = w' := by
  have h' : (1048576 : Int) < (len : Int) := by omega
  clear h
  go_enter Try.func6, Try.ntmps6
  go_wp2
  go_ret
  exact ⟨rfl, rfl⟩
theorem bytes12_yes (d : Bool) (a : Option Addr) (len cap : Nat) (x y : Int) (w : World) (h : len ≤ 1048576) :
    Calls Try.prog 12 #[.bool d, .slice a len cap, .int .i64 x, .int .i64 y] w fun e w' => e = .returned (.bool true) ∧ w = w' := by
  have h' : ¬ (1048576 : Int) < (len : Int) := by omega
  go_enter Try.func12, Try.ntmps12
  go_wp2
  go_ret
  exact ⟨rfl, rfl⟩
theorem bytes12_no (d : Bool) (a : Option Addr) (len cap : Nat) (x y : Int) (w : World) (h : ¬ len ≤ 1048576) :
    Calls Try.prog 12 #[.bool d, .slice a len cap, .int .i64 x, .int .i64 y] w fun e w' => e = .returned (.bool false) ∧ w = w' := by
  have h' : (1048576 : Int) < (len : Int) := by omega
  clear h
  go_enter Try.func12, Try.ntmps12
  go_wp2
  go_ret
  exact ⟨rfl, rfl⟩

/-- A list of ints that came in and is not empty: its address written out, its cells. -/
theorem open_row {w : World} {x : Addr} {len cap : Nat} {zs : List Int} (hl : len ≤ cap) (hz : zs.length = cap) (hpos : 0 < len)
    (hcell : ∀ i, i < zs.length → w.cell? (x.add i) = some (.int .i64 (zs.getD i 0))) :
    ∃ b off, x = ⟨b, off, none⟩ ∧ b < w.heap.size ∧ ∀ i, i < len → w.cell? ⟨b, off + i, none⟩ = some (.int .i64 (zs.getD i 0)) := by
  obtain ⟨b, off, spot⟩ := x
  have hc := hcell 0 (by omega)
  have hspot : spot = none := by simpa [Addr.add] using World.cell?_spot hc
  subst hspot
  refine ⟨b, off, rfl, ?_, fun i hi => ?_⟩
  · have := World.block_lt_of_cell? _ _ hc
    simpa [Addr.add] using this
  · have h := hcell i (by omega)
    have e : (⟨b, off, none⟩ : Addr).add i = ⟨b, off + i, none⟩ := by
      unfold Addr.add
      by_cases h0 : i = 0
      · subst h0; rfl
      · simp [h0]
    rw [e] at h
    exact h
end Go.Proofs.Ytkadajmpmmcnaaa
