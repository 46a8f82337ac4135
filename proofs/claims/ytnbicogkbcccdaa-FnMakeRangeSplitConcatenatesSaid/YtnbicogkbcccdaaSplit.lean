/-
  For all ints min <= k <= max with k below the greatest int, where max-min+1 does not wrap and is at most 65536: MakeRange(min, k) followed by MakeRange(k+1, max) is MakeRange(min, max), element by element and in length. No condition of ours. (The frame of the proof was printed by the kit's skeleton program.)
-/
import Derived.Test.YtnbicogkbcccdaaRows
import Derived.WalkKit
import Derived.ProofKit
import Derived.OpenShut
import Derived.Test.YtnbicogkbcccdaaWalks
import Derived.Handy
import Derived.LoopTactic
import Derived.Lib.Hide
import Derived.Below
import Derived.WalkSpells
import Derived.Deep.QuietTactic
import Derived.BigQuiet
import Derived.IntWalk
import Derived.Deep.OwnRows
namespace Go.Proofs.Ytnbicogkbcccdaa.fnMakeRangeSplitConcatenates
open Go.ChangeShapes Go.WideShapes Go.ChangeAt Go.RowKit
set_option linter.unusedVariables false      -- a walk need not use every 'w<i>' (that an integer argument fits its kind)

theorem own : ownKnob Try.prog.godebug = none := by kernel_rfl

/-- MakeRange where max - min + 1 = n, n from 0 on: a new row of n cells, cell i holds min + i. -/
theorem range_any (mn mx : Int) (n : Nat) (w : World) (hn : mx - mn + 1 = (n : Int)) (hle : n ≤ 65536) (h1 : -9223372036854775808 ≤ mn) (h2 : mn ≤ 9223372036854775807) (h3 : -9223372036854775808 ≤ mx) (h4 : mx ≤ 9223372036854775807) :
    Calls Try.prog 7 #[.int .i64 mn, .int .i64 mx] w fun e w' => e = .returned (.slice (some ⟨w.heap.size, 0, none⟩) n n) ∧ w'.rowIs w.heap.size 3 n (fun i => .int .i64 (mn + (i : Int))) ∧ Below w.heap.size w w' := by
  by_cases hpos : 0 < n
  · exact range_full mn mx n w hn hpos hle h1 h2 h3 h4
  · obtain rfl : n = 0 := by omega
    have h : mx - mn + 1 ≤ 0 := by omega
    have h0 : -9223372036854775808 ≤ mx - mn := by omega
    clear hn
    go_enter Try.func7, Try.ntmps7
    go_wp2
    go_ret
    exact ⟨rfl, World.rowIs_alloc w #[] 3 _ (fun i hi => absurd hi (by simp)), by go_grown⟩

theorem walk (a0 : Int) (a1 : Int) (a2 : Int) (w0 : (Lit.int .i64 a0).wf = true) (w1 : (Lit.int .i64 a1).wf = true) (w2 : (Lit.int .i64 a2).wf = true) (w : World) :
    Calls Try.prog 5 #[.int .i64 a0, .int .i64 a1, .int .i64 a2] w fun e w' => e = .returned (.bool true) ∧ Below w.heap.size w w' := by
  obtain ⟨b1, b2⟩ := bounds_i64 w0
  obtain ⟨b3, b4⟩ := bounds_i64 w1
  obtain ⟨b5, b6⟩ := bounds_i64 w2
  clear w0 w1 w2
  by_cases hs : -9223372036854775808 ≤ a2 - a0 ∧ a2 - a0 < 9223372036854775807
  · obtain ⟨c1, c2⟩ := hs
    by_cases hbig : 65536 < a2 - a0 + 1
    · go_enter Try.func5, Try.ntmps5
      go_wp2_with (go_at_call 6; refine (span_ok _ _ _ c1 c2 b1 b2 b5 b6).mono ?_; rintro e w' ⟨rfl, rfl⟩)
      go_ret
      exact ⟨rfl, Below.refl _ _⟩
    · by_cases k1 : a1 < a0
      · go_enter Try.func5, Try.ntmps5
        go_wp2_with (go_at_call 6; refine (span_ok _ _ _ c1 c2 b1 b2 b5 b6).mono ?_; rintro e w' ⟨rfl, rfl⟩)
        go_ret
        exact ⟨rfl, Below.refl _ _⟩
      · by_cases k2 : a2 < a1
        · go_enter Try.func5, Try.ntmps5
          go_wp2_with (go_at_call 6; refine (span_ok _ _ _ c1 c2 b1 b2 b5 b6).mono ?_; rintro e w' ⟨rfl, rfl⟩)
          go_ret
          exact ⟨rfl, Below.refl _ _⟩
        · by_cases k3 : a1 = 9223372036854775807
          · have k3' : (a1 == 9223372036854775807) = true := by simp [k3]
            clear k3
            go_enter Try.func5, Try.ntmps5
            go_wp2_with (go_at_call 6; refine (span_ok _ _ _ c1 c2 b1 b2 b5 b6).mono ?_; rintro e w' ⟨rfl, rfl⟩)
            go_ret
            exact ⟨rfl, Below.refl _ _⟩
          · have k3' : (a1 == 9223372036854775807) = false := by simp [k3]
            obtain ⟨n1, hn1⟩ : ∃ n : Nat, a1 - a0 + 1 = (n : Int) := ⟨(a1 - a0 + 1).toNat, by omega⟩
            obtain ⟨n2, hn2⟩ : ∃ n : Nat, a2 - (a1 + 1) + 1 = (n : Int) := ⟨(a2 - (a1 + 1) + 1).toNat, by omega⟩
            have hn : a2 - a0 + 1 = ((n1 + n2 : Nat) : Int) := by omega
            have l1 : n1 ≤ 65536 := by omega
            have l2 : n2 ≤ 65536 := by omega
            have l3 : n1 + n2 ≤ 65536 := by omega
            have b7 : -9223372036854775808 ≤ a1 + 1 := by omega
            have b8 : a1 + 1 ≤ 9223372036854775807 := by omega
            have hd : decide (65536 < a2 - a0 + 1) = false := decide_eq_false hbig
            have hd1 : decide (a1 < a0) = false := decide_eq_false k1
            have hd2 : decide (a2 < a1) = false := decide_eq_false k2
            clear k3
            have H1 := Lib.hid hn1
            have H2 := Lib.hid hn2
            have H3 := Lib.hid hn
            clear hn1 hn2 hn
            go_enter Try.func5, Try.ntmps5
            go_wp2_with (go_at_call 6; refine (span_ok _ _ _ c1 c2 b1 b2 b5 b6).mono ?_; rintro e w' ⟨rfl, rfl⟩)
            refine (range_any _ _ n1 _ H1.out l1 b1 b2 b3 b4).mono ?_
            rintro e w1 ⟨rfl, hr1, hb1⟩
            have R1 := Lib.hid hr1
            have B1 := Lib.hid hb1
            clear hr1 hb1
            go_wp2_with fail
            refine (range_any _ _ n2 _ H2.out l2 b7 b8 b5 b6).mono ?_
            rintro e w2 ⟨rfl, hr2, hb2⟩
            have R2 := Lib.hid hr2
            have B2 := Lib.hid hb2
            clear hr2 hb2
            go_wp2_with fail
            refine (range_any _ _ (n1 + n2) _ H3.out l3 b1 b2 b5 b6).mono ?_
            rintro e w3 ⟨rfl, hr3, hb3⟩
            have R3 := Lib.hid hr3
            have B3 := Lib.hid hb3
            clear hr3 hb3
            have Q1 : Hid (w3.rowIs w.heap.size 3 n1 (fun i => .int .i64 (a0 + (i : Int)))) := by
              have h2 := R1.out.of_block (B2.out.block _ R1.out.lt)
              exact h2.of_block (B3.out.block _ h2.lt)
            have Q2 : Hid (w3.rowIs w1.heap.size 3 n2 (fun i => .int .i64 (a1 + 1 + (i : Int)))) := R2.out.of_block (B3.out.block _ R2.out.lt)
            have BB : Hid (Below w.heap.size w w3) := (B1.out.trans (B2.out.mono B1.out.size)).trans (B3.out.mono (Nat.le_trans B1.out.size B2.out.size))
            clear R1 R2 B1 B2 B3
            go_wp2
            go_loopw [12] (fun i wr => ∃ m q : Nat, m ≤ n1 ∧ i = .int .i64 (m : Int) ∧ wr = w3.drewN q) (fun i _ => n1 - (intOf i).toNat)
            case atStart => exact ⟨0, 0, Nat.zero_le _, rfl, rfl⟩
            case round =>
              obtain ⟨m, q, hm, rfl, rfl⟩ := hrel
              by_cases hlt : m < n1
              · have hc1 : w3.cell? ⟨w.heap.size, m, none⟩ = some (.int .i64 (a0 + (m : Int))) := Q1.out.cell hlt
                have hc3 : w3.cell? ⟨w2.heap.size, m, none⟩ = some (.int .i64 (a0 + (m : Int))) := R3.out.cell (by omega)
                have hm2 : m < n1 + n2 := by omega
                have hm3 : (m : Int) < (n1 : Int) + (n2 : Int) := by omega
                go_wp2
                go_quiet (fail)
                go_wp2
                go_roundw
                case rel => exact ⟨m + 1, _, by omega, by go_num, rfl⟩
                case measure => simp [intOf]; omega
              · obtain rfl : m = n1 := by omega
                go_wp2
                go_loopw [13] (fun i wr => ∃ j r : Nat, j ≤ n2 ∧ i = .int .i64 (j : Int) ∧ wr = w3.drewN r) (fun i _ => n2 - (intOf i).toNat)
                case atStart => exact ⟨0, q, Nat.zero_le _, rfl, rfl⟩
                case round =>
                  obtain ⟨j, r, hj, rfl, rfl⟩ := hrel
                  by_cases hjl : j < n2
                  · have hc2 : w3.cell? ⟨w1.heap.size, j, none⟩ = some (.int .i64 (a1 + 1 + (j : Int))) := Q2.out.cell hjl
                    have hc3 : w3.cell? ⟨w2.heap.size, m + j, none⟩ = some (.int .i64 (a1 + 1 + (j : Int))) := by
                      have h := R3.out.cell (i := m + j) (by omega)
                      have e : a0 + ((m + j : Nat) : Int) = a1 + 1 + (j : Int) := by have := H1.out; omega
                      rw [h, e]
                    have hm2 : m + j < m + n2 := by omega
                    have hm3 : (m : Int) + (j : Int) < (m : Int) + (n2 : Int) := by omega
                    have hm4 : (0 : Int) ≤ (m : Int) + (j : Int) := by omega
                    have hm5 : ((m : Int) + (j : Int)).toNat = m + j := by omega
                    have hw1 : IntKind.i64.wrap ((m : Int) + (j : Int)) = (m : Int) + (j : Int) := IntWalk.i64_in _ (by omega)
                    go_wp2
                    go_quiet (fail)
                    go_wp2
                    go_roundw
                    case rel => exact ⟨j + 1, _, by omega, by go_num, rfl⟩
                    case measure => simp [intOf]; omega
                  · obtain rfl : j = n2 := by omega
                    go_wp2
                    go_ret
                    exact ⟨rfl, BB.out.trans ⟨rfl, rfl, rfl, Nat.le_refl _, fun _ _ => rfl⟩⟩
  · go_enter Try.func5, Try.ntmps5
    go_wp2_with (go_at_call 6; refine (span_bad _ _ _ hs b1 b2 b5 b6).mono ?_; rintro e w' ⟨rfl, rfl⟩)
    go_ret
    exact ⟨rfl, Below.refl _ _⟩


set_option maxRecDepth 100000 in
theorem lifted (os : Os) (started : os.Started) (H : Type) (enc : TypeId × Value → H) :
    ReturnsInHanded {} Try.checked os 5 .any (Rows.fnMakeRangeSplitConcatenatesSpec.pre6 enc Try.prog Try.f5 Rows.fnMakeRangeSplitConcatenatesRow.domain false) (Rows.fnMakeRangeSplitConcatenatesSpec.post enc Try.prog Try.f5 false true false false) := by
  refine returnsInHanded_of_change (C := Try.checked) own started (by kernel_rfl) Try.func5
    (ChangeSpec.witness6 (enc := enc) (C := Try.checked) false ⟨#[], #[.int .i64 0, .int .i64 0, .int .i64 0], []⟩ 8 (by kernel_rfl) (by kernel_rfl) (by kernel_rfl) (by kernel_rfl)) ?_
  intro W base args ds gs before hval0 hW hcnd _
  have hval : ∀ (j : Nat) t v, Try.f5.params[j]? = some t → args[j]? = some v → Value.okWide Try.prog W .any base t v := hval0
  have hW' := hW
  obtain ⟨p, q, hA0, hV, rfl, hfz, hnd⟩ := hW
  have hA : DataW.TrodAll enc Try.prog W 0 (fun _ => true) true Try.f5.params.toList args.toList ds p := hA0
  rw [Try.params5] at hA hval
  obtain ⟨v0, vs0, d0, ds0, p0, q0, hargs, rfl, rfl, h0, r0⟩ := trodAll_cons hA
  obtain ⟨v1, vs1, d1, ds1, p1, q1, rfl, rfl, rfl, h1, r1⟩ := trodAll_cons r0
  obtain ⟨v2, vs2, d2, ds2, p2, q2, rfl, rfl, rfl, h2, r2⟩ := trodAll_cons r1
  obtain ⟨rfl, rfl, rfl⟩ := trodAll_nil r2
  obtain rfl : args = #[v0, v1, v2] := by cases args; simp_all
  obtain ⟨rfl, rfl⟩ := trodVars_none hV
  obtain ⟨a0, rfl, rfl, rfl, w0⟩ := open_int Try.underlying3 (hval 0 3 v0 rfl rfl) h0
  obtain ⟨a1, rfl, rfl, rfl, w1⟩ := open_int Try.underlying3 (hval 1 3 v1 rfl rfl) h1
  obtain ⟨a2, rfl, rfl, rfl, w2⟩ := open_int Try.underlying3 (hval 2 3 v2 rfl rfl) h2
  clear hA0 hval0
  refine (walk a0 a1 a2 w0 w1 w2 W).mono fun e W' ⟨he, bel⟩ => ?_
  subst he
  exact ⟨_, rfl, _, _, _, [], _, [], hW', trodAll_mk1 (shut_bool Try.underlying4 _), (trodAll_cons_mk (shut_int Try.underlying3 w0) (trodAll_cons_mk (shut_int Try.underlying3 w1) (trodAll_cons_mk (shut_int Try.underlying3 w2) trodAll_mk0))), rfl, bel.frame _, fun h => by cases h⟩

theorem over : Rows.fnMakeRangeSplitConcatenatesRow.holds Try.pinned (OpenSpec.ofChange Rows.fnMakeRangeSplitConcatenatesSpec) :=
  OpenClaim.holds_of_wide 5 Try.f5 rfl rfl rfl rfl rfl rfl rfl ⟨rfl, rfl, rfl, rfl, rfl⟩ rfl rfl rfl rfl rfl (by kernel_rfl) Try.func5 (by kernel_rfl)
    (of_decide_eq_true (by kernel_rfl)) (by unfold Func.isWrapper; first | (rw [if_pos (by decide +kernel)]; kernel_rfl) | (rw [if_neg (by decide +kernel)]; exact ⟨rfl, rfl⟩))
    (fun os started H enc _ => lifted os started H enc)

theorem proved : Rows.FnMakeRangeSplitConcatenatesSaid :=
  over
end Go.Proofs.Ytnbicogkbcccdaa.fnMakeRangeSplitConcatenates
