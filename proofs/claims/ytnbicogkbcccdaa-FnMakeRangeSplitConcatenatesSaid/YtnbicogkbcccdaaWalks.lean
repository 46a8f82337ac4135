/-
  The two callees of the laws on MakeRange, each by a contract: zzSpan (the guarded span) and MakeRange itself.
-/
import Derived.Test.YtnbicogkbcccdaaProg
import Derived.Handy
import Derived.LoopTactic
import Derived.Deep.OwnRows
import Derived.Lib.Hide
namespace Go.Proofs.Ytnbicogkbcccdaa
open Go.RowKit
set_option linter.unusedVariables false

theorem Try.info3 : (Try.prog.info? 3).map (fun i => (i.zero, i.size, i.bytes)) = some (some (.int .i64 0), 1, 8) := by kernel_rfl

/-- MakeRange where max < min (no wrap): a new empty row. -/
theorem range_empty (mn mx : Int) (w : World) (h0 : -9223372036854775808 ≤ mx - mn) (h : mx - mn + 1 ≤ 0) (h1 : -9223372036854775808 ≤ mn) (h2 : mn ≤ 9223372036854775807) (h3 : -9223372036854775808 ≤ mx) (h4 : mx ≤ 9223372036854775807) :
    Calls Try.prog 7 #[.int .i64 mn, .int .i64 mx] w fun e w' => e = .returned (.slice (some ⟨w.heap.size, 0, none⟩) 0 0) ∧ Below w.heap.size w w' := by
  go_enter Try.func7, Try.ntmps7
  go_wp2
  go_ret
  exact ⟨rfl, by go_grown⟩

/-- MakeRange where min ≤ max: a new row of n cells, cell i holds min + i. -/
theorem range_full (mn mx : Int) (n : Nat) (w : World) (hn : mx - mn + 1 = (n : Int)) (hpos : 0 < n) (hle : n ≤ 65536) (h1 : -9223372036854775808 ≤ mn) (h2 : mn ≤ 9223372036854775807) (h3 : -9223372036854775808 ≤ mx) (h4 : mx ≤ 9223372036854775807) :
    Calls Try.prog 7 #[.int .i64 mn, .int .i64 mx] w fun e w' => e = .returned (.slice (some ⟨w.heap.size, 0, none⟩) n n) ∧ w'.rowIs w.heap.size 3 n (fun i => .int .i64 (mn + (i : Int))) ∧ Below w.heap.size w w' := by
  have hmk := run_make_row' (P := Try.prog) 24 3 (.int .i64 0) 8 Try.underlying24 Try.info3 rfl .i64 .i64 n (by omega) (by omega)
  have hz : ¬ n = 0 := by omega
  go_enter Try.func7, Try.ntmps7
  go_wp2
  go_loopw [19] (fun i wr => ∃ k : Nat, k ≤ n ∧ i = .int .i64 k ∧ wr.rowIs w.heap.size 3 n (fun j => if j < k then .int .i64 (mn + (j : Int)) else .int .i64 0) ∧ Below w.heap.size w wr)
    (fun i _ => n - (intOf i).toNat)
  case atStart => exact ⟨0, Nat.zero_le _, rfl, (World.rowIs_made w (.int .i64 0) n 3).congr (fun i _ => by simp), (Below.refl _ _).alloc (Nat.le_refl _) _⟩
  case round =>
    obtain ⟨k, hk, rfl, hrow, hb⟩ := hrel
    by_cases hlt : k < n
    · have hc : wr.cell? ⟨w.heap.size, k, none⟩ = some (.int .i64 0) := by have := hrow.cell hlt; simpa using this
      have hf := hrow.frozen k
      have R : (wr.setCell ⟨w.heap.size, k, none⟩ (.int .i64 (mn + (k : Int)))).rowIs w.heap.size 3 n (fun j => if j < k + 1 then .int .i64 (mn + (j : Int)) else .int .i64 0) := by
        refine (hrow.set k _).congr (fun j hj => ?_)
        by_cases e : j = k
        · subst e; simp
        · by_cases l : j < k
          · simp [e, l, Nat.lt_succ_of_lt l]
          · have : ¬ j < k + 1 := by omega
            simp [e, l, this]
      have HB := Lib.hid hb; clear hb
      have HR := Lib.hid R; clear R
      have HW := Lib.hid hrow; clear hrow
      go_wp2
      go_roundw
      case rel => exact ⟨k + 1, by omega, by go_num, HR.out, HB.out.setCell (Nat.le_refl _) _⟩
      case measure => simp [intOf]; omega
    · obtain rfl : k = n := by omega
      have HB := Lib.hid hb; clear hb
      have HW := Lib.hid hrow; clear hrow
      go_wp2
      go_ret
      exact ⟨rfl, HW.out.congr (fun j hj => by simp [hj]), HB.out⟩

/-- zzSpan where max - min + 1 fits: that number, and true. -/
theorem span_ok (mn mx : Int) (w : World) (hlo : -9223372036854775808 ≤ mx - mn) (hhi : mx - mn < 9223372036854775807) (h1 : -9223372036854775808 ≤ mn) (h2 : mn ≤ 9223372036854775807) (h3 : -9223372036854775808 ≤ mx) (h4 : mx ≤ 9223372036854775807) :
    Calls Try.prog 6 #[.int .i64 mn, .int .i64 mx] w fun e w' => e = .returned (.tuple #[.int .i64 (mx - mn + 1), .bool true]) ∧ w = w' := by
  rcases Int.lt_trichotomy mn 0 with h | h | h
  · have t1 : mx ≤ 9223372036854775807 + mn := by omega
    have t2 : ¬ 0 < mn := by omega
    have t3 : ¬ mx - mn = 9223372036854775807 := by omega
    go_enter Try.func6, Try.ntmps6
    go_wp2
    go_ret2
    exact ⟨rfl, rfl⟩
  · subst h
    have t3 : ¬ mx = 9223372036854775807 := by omega
    go_enter Try.func6, Try.ntmps6
    go_wp2
    go_ret2
    exact ⟨by simp, rfl⟩
  · have t1 : -9223372036854775808 + mn ≤ mx := by omega
    have t2 : ¬ mn < 0 := by omega
    have t3 : ¬ mx - mn = 9223372036854775807 := by omega
    go_enter Try.func6, Try.ntmps6
    go_wp2
    go_ret2
    exact ⟨rfl, rfl⟩

/-- zzSpan where max - min + 1 wraps: 0 and false. -/
theorem span_bad (mn mx : Int) (w : World) (hbad : ¬ (-9223372036854775808 ≤ mx - mn ∧ mx - mn < 9223372036854775807)) (h1 : -9223372036854775808 ≤ mn) (h2 : mn ≤ 9223372036854775807) (h3 : -9223372036854775808 ≤ mx) (h4 : mx ≤ 9223372036854775807) :
    Calls Try.prog 6 #[.int .i64 mn, .int .i64 mx] w fun e w' => e = .returned (.tuple #[.int .i64 0, .bool false]) ∧ w = w' := by
  by_cases a : mn < 0 ∧ 9223372036854775807 + mn < mx
  · obtain ⟨a1, a2⟩ := a
    clear hbad
    go_enter Try.func6, Try.ntmps6
    go_wp2
    go_ret2
    exact ⟨rfl, rfl⟩
  · by_cases b : 0 < mn ∧ mx < -9223372036854775808 + mn
    · obtain ⟨b1, b2⟩ := b
      clear hbad a
      go_enter Try.func6, Try.ntmps6
      go_wp2
      go_ret2
      exact ⟨rfl, rfl⟩
    · have t : mx - mn = 9223372036854775807 := by omega
      have t2 : mn ≤ 0 := by omega
      by_cases c : mn < 0
      · have c1 : ¬ 0 < mn := by omega
        have c2 : ¬ 9223372036854775807 + mn < mx := by omega
        have t' : mx = 9223372036854775807 + mn := by omega
        clear hbad a b t2
        go_enter Try.func6, Try.ntmps6
        go_wp2
        go_ret2
        exact ⟨rfl, rfl⟩
      · obtain rfl : mn = 0 := by omega
        obtain rfl : mx = 9223372036854775807 := by omega
        clear hbad a b t2 t c h1 h2 h3 h4
        go_enter Try.func6, Try.ntmps6
        go_wp2
        go_ret2
        exact ⟨rfl, rfl⟩
end Go.Proofs.Ytnbicogkbcccdaa
