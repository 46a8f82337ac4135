/-
  For all ints min, max and x: where max-min+1 does not wrap and is at most 65536, x stands in MakeRange(min, max) once if min <= x <= max, and else not at all. No condition of ours. (The frame of the proof was printed by the kit's skeleton program.)
-/
import Derived.Test.YtnbicogkbcccdaaRows
import Derived.WalkKit
import Derived.ProofKit
import Derived.OpenShut
import Derived.Test.YtnbicogkbcccdaaWalks
import Derived.Handy
import Derived.LoopTactic
import Derived.Lib.Hide
import Derived.Below
namespace Go.Proofs.Ytnbicogkbcccdaa.fnMakeRangeHoldsEachInRangeOnce
open Go.ChangeShapes Go.WideShapes Go.ChangeAt Go.RowKit
set_option linter.unusedVariables false      -- a walk need not use every 'w<i>' (that an integer argument fits its kind)

theorem own : ownKnob Try.prog.godebug = none := by kernel_rfl

/-- How often x has been seen among the first k numbers from mn on. -/
def seen (mn x : Int) (k : Nat) : Int := if mn ≤ x ∧ x < mn + (k : Int) then 1 else 0
theorem seen_bd (mn x : Int) (k : Nat) : 0 ≤ seen mn x k ∧ seen mn x k ≤ 1 := by
  unfold seen; split <;> omega
theorem seen_zero (mn x : Int) : seen mn x 0 = 0 := by
  unfold seen; rw [if_neg]; omega
theorem seen_hit (mn x : Int) (k : Nat) (h : mn + (k : Int) = x) : seen mn x (k + 1) = seen mn x k + 1 := by
  unfold seen; rw [if_pos (by omega), if_neg (by omega)]; rfl
theorem seen_miss (mn x : Int) (k : Nat) (h : ¬ mn + (k : Int) = x) : seen mn x (k + 1) = seen mn x k := by
  unfold seen
  by_cases a : mn ≤ x ∧ x < mn + (k : Int)
  · rw [if_pos (by omega), if_pos a]
  · rw [if_neg (by omega), if_neg a]
theorem seen_in (mn mx x : Int) (n : Nat) (hn : mx - mn + 1 = (n : Int)) (h1 : mn ≤ x) (h2 : x ≤ mx) : seen mn x n = 1 := by
  unfold seen; rw [if_pos (by omega)]
theorem seen_out (mn mx x : Int) (n : Nat) (hn : mx - mn + 1 = (n : Int)) (h : ¬ (mn ≤ x ∧ x ≤ mx)) : seen mn x n = 0 := by
  unfold seen; rw [if_neg (by omega)]

theorem walk (a0 : Int) (a1 : Int) (a2 : Int) (w0 : (Lit.int .i64 a0).wf = true) (w1 : (Lit.int .i64 a1).wf = true) (w2 : (Lit.int .i64 a2).wf = true) (w : World) :
    Calls Try.prog 3 #[.int .i64 a0, .int .i64 a1, .int .i64 a2] w fun e w' => e = .returned (.bool true) ∧ Below w.heap.size w w' := by
  obtain ⟨b1, b2⟩ := bounds_i64 w0
  obtain ⟨b3, b4⟩ := bounds_i64 w1
  obtain ⟨b5, b6⟩ := bounds_i64 w2
  clear w0 w1 w2
  by_cases hs : -9223372036854775808 ≤ a1 - a0 ∧ a1 - a0 < 9223372036854775807
  · by_cases hbig : 65536 < a1 - a0 + 1
    · obtain ⟨c1, c2⟩ := hs
      go_enter Try.func3, Try.ntmps3
      go_wp2_with (go_at_call 6; refine (span_ok _ _ _ c1 c2 b1 b2 b3 b4).mono ?_; rintro e w' ⟨rfl, rfl⟩)
      go_ret
      exact ⟨rfl, Below.refl _ _⟩
    · by_cases hneg : a1 - a0 + 1 ≤ 0
      · obtain ⟨c1, c2⟩ := hs
        have hx : ¬ (a0 ≤ a2 ∧ a2 ≤ a1) := by omega
        go_enter Try.func3, Try.ntmps3
        go_wp2_with (first | (go_at_call 6; refine (span_ok _ _ _ c1 c2 b1 b2 b3 b4).mono ?_; rintro e w' ⟨rfl, rfl⟩) | (go_at_call 7; refine (range_empty _ _ _ c1 hneg b1 b2 b3 b4).mono ?_; rintro e w' ⟨rfl, hb⟩))
        go_rounds 1
        all_goals (go_ret; exact ⟨rfl, hb⟩)
      · obtain ⟨c1, c2⟩ := hs
        obtain ⟨n, hn⟩ : ∃ n : Nat, a1 - a0 + 1 = (n : Int) := ⟨(a1 - a0 + 1).toNat, by omega⟩
        have hpos : 0 < n := by omega
        have hle : n ≤ 65536 := by omega
        have HN := Lib.hid hn
        clear hn
        have hd : decide (65536 < a1 - a0 + 1) = false := decide_eq_false hbig
        go_enter Try.func3, Try.ntmps3
        go_wp2_with (first | (go_at_call 6; refine (span_ok _ _ _ c1 c2 b1 b2 b3 b4).mono ?_; rintro e w' ⟨rfl, rfl⟩) | (go_at_call 7; refine (range_full _ _ n _ HN.out hpos hle b1 b2 b3 b4).mono ?_; rintro e w1 ⟨rfl, hrow, hb⟩))
        have HB := Lib.hid hb
        have HR := Lib.hid hrow
        clear hb hrow
        go_loop [10, 11] (fun c i => ∃ k : Nat, k ≤ n ∧ i = .int .i64 k ∧ c = .int .i64 (seen a0 a2 k)) (fun _ i => n - (intOf i).toNat)
        case atStart => exact ⟨0, Nat.zero_le _, rfl, by rw [seen_zero]⟩
        case round =>
          obtain ⟨k, hk, rfl, rfl⟩ := hrel
          obtain ⟨s1, s2⟩ := seen_bd a0 a2 k
          by_cases hlt : k < n
          · have hc : w1.cell? ⟨w.heap.size, k, none⟩ = some (.int .i64 (a0 + (k : Int))) := HR.out.cell hlt
            by_cases e : a0 + (k : Int) = a2
            · have HS := Lib.hid (seen_hit a0 a2 k e)
              have e1 : (a0 + (k : Int) == a2) = true := by simp [e]
              clear e
              go_wp2
              go_round
              case rel => exact ⟨k + 1, by omega, by go_num, by rw [HS.out]⟩
              case measure => simp [intOf]; omega
            · have HS := Lib.hid (seen_miss a0 a2 k e)
              have e1 : (a0 + (k : Int) == a2) = false := by simp [e]
              clear e
              go_wp2
              go_round
              case rel => exact ⟨k + 1, by omega, by go_num, by rw [HS.out]⟩
              case measure => simp [intOf]; omega
          · obtain rfl : k = n := by omega
            by_cases p : a0 ≤ a2
            · by_cases q : a2 ≤ a1
              · have hv := seen_in a0 a1 a2 k HN.out p q
                go_wp2
                go_ret
                exact ⟨rfl, HB.out⟩
              · have hv := seen_out a0 a1 a2 k HN.out (fun h => q h.2)
                go_wp2
                go_ret
                exact ⟨rfl, HB.out⟩
            · have hv := seen_out a0 a1 a2 k HN.out (fun h => p h.1)
              go_wp2
              go_ret
              exact ⟨rfl, HB.out⟩
  · go_enter Try.func3, Try.ntmps3
    go_wp2_with (go_at_call 6; refine (span_bad _ _ _ hs b1 b2 b3 b4).mono ?_; rintro e w' ⟨rfl, rfl⟩)
    go_ret
    exact ⟨rfl, Below.refl _ _⟩


set_option maxRecDepth 100000 in
theorem lifted (os : Os) (started : os.Started) (H : Type) (enc : TypeId × Value → H) :
    ReturnsInHanded {} Try.checked os 3 .any (Rows.fnMakeRangeHoldsEachInRangeOnceSpec.pre6 enc Try.prog Try.f3 Rows.fnMakeRangeHoldsEachInRangeOnceRow.domain false) (Rows.fnMakeRangeHoldsEachInRangeOnceSpec.post enc Try.prog Try.f3 false true false false) := by
  refine returnsInHanded_of_change (C := Try.checked) own started (by kernel_rfl) Try.func3
    (ChangeSpec.witness6 (enc := enc) (C := Try.checked) false ⟨#[], #[.int .i64 0, .int .i64 0, .int .i64 0], []⟩ 8 (by kernel_rfl) (by kernel_rfl) (by kernel_rfl) (by kernel_rfl)) ?_
  intro W base args ds gs before hval0 hW hcnd _
  have hval : ∀ (j : Nat) t v, Try.f3.params[j]? = some t → args[j]? = some v → Value.okWide Try.prog W .any base t v := hval0
  have hW' := hW
  obtain ⟨p, q, hA0, hV, rfl, hfz, hnd⟩ := hW
  have hA : DataW.TrodAll enc Try.prog W 0 (fun _ => true) true Try.f3.params.toList args.toList ds p := hA0
  rw [Try.params3] at hA hval
  obtain ⟨v0, vs0, d0, ds0, p0, q0, hargs, rfl, rfl, h0, r0⟩ := trodAll_cons hA
  obtain ⟨v1, vs1, d1, ds1, p1, q1, rfl, rfl, rfl, h1, r1⟩ := trodAll_cons r0
  obtain ⟨v2, vs2, d2, ds2, p2, q2, rfl, rfl, rfl, h2, r2⟩ := trodAll_cons r1
  obtain ⟨rfl, rfl, rfl⟩ := trodAll_nil r2
  obtain rfl : args = #[v0, v1, v2] := by cases args; simp_all
  obtain ⟨rfl, rfl⟩ := trodVars_none hV
  obtain ⟨a0, rfl, rfl, rfl, w0⟩ := open_int Try.underlying3 (hval 0 3 v0 rfl rfl) h0
  obtain ⟨a1, rfl, rfl, rfl, w1⟩ := open_int Try.underlying3 (hval 1 3 v1 rfl rfl) h1
  obtain ⟨a2, rfl, rfl, rfl, w2⟩ := open_int Try.underlying3 (hval 2 3 v2 rfl rfl) h2
  clear hA0 hval0
  refine (walk a0 a1 a2 w0 w1 w2 W).mono fun e W' ⟨he, bel⟩ => ?_
  subst he
  exact ⟨_, rfl, _, _, _, [], _, [], hW', trodAll_mk1 (shut_bool Try.underlying4 _), (trodAll_cons_mk (shut_int Try.underlying3 w0) (trodAll_cons_mk (shut_int Try.underlying3 w1) (trodAll_cons_mk (shut_int Try.underlying3 w2) trodAll_mk0))), rfl, bel.frame _, fun h => by cases h⟩

theorem over : Rows.fnMakeRangeHoldsEachInRangeOnceRow.holds Try.pinned (OpenSpec.ofChange Rows.fnMakeRangeHoldsEachInRangeOnceSpec) :=
  OpenClaim.holds_of_wide 3 Try.f3 rfl rfl rfl rfl rfl rfl rfl ⟨rfl, rfl, rfl, rfl, rfl⟩ rfl rfl rfl rfl rfl (by kernel_rfl) Try.func3 (by kernel_rfl)
    (of_decide_eq_true (by kernel_rfl)) (by unfold Func.isWrapper; first | (rw [if_pos (by decide +kernel)]; kernel_rfl) | (rw [if_neg (by decide +kernel)]; exact ⟨rfl, rfl⟩))
    (fun os started H enc _ => lifted os started H enc)

theorem proved : Rows.FnMakeRangeHoldsEachInRangeOnceSaid :=
  over
end Go.Proofs.Ytnbicogkbcccdaa.fnMakeRangeHoldsEachInRangeOnce
