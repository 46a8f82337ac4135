/-
  For all ints min and max where max-min+1 does not wrap and is at most 65536: MakeRange(min, max) is a non-nil empty slice if max < min; else it has max-min+1 elements, the first is min, the last is max, each is one more than the one before. No condition of ours. (The frame of the proof was printed by the kit's skeleton program.)
-/
import Derived.Test.YtnbicogkbcccdaaRows
import Derived.WalkKit
import Derived.ProofKit
import Derived.OpenShut
import Derived.Test.YtnbicogkbcccdaaWalks
import Derived.Handy
import Derived.LoopTactic
import Derived.Lib.Hide
import Derived.Below
import Derived.WalkSpells
import Derived.Deep.QuietTactic
import Derived.BigQuiet
import Derived.IntWalk
namespace Go.Proofs.Ytnbicogkbcccdaa.fnMakeRangeSpansExactlyMinToMax
open Go.ChangeShapes Go.WideShapes Go.ChangeAt Go.RowKit
set_option linter.unusedVariables false      -- a walk need not use every 'w<i>' (that an integer argument fits its kind)

theorem own : ownKnob Try.prog.godebug = none := by kernel_rfl

theorem walk (a0 : Int) (a1 : Int) (w0 : (Lit.int .i64 a0).wf = true) (w1 : (Lit.int .i64 a1).wf = true) (w : World) :
    Calls Try.prog 4 #[.int .i64 a0, .int .i64 a1] w fun e w' => e = .returned (.bool true) ∧ Below w.heap.size w w' := by
  obtain ⟨b1, b2⟩ := bounds_i64 w0
  obtain ⟨b3, b4⟩ := bounds_i64 w1
  clear w0 w1
  by_cases hs : -9223372036854775808 ≤ a1 - a0 ∧ a1 - a0 < 9223372036854775807
  · by_cases hbig : 65536 < a1 - a0 + 1
    · obtain ⟨c1, c2⟩ := hs
      go_enter Try.func4, Try.ntmps4
      go_wp2_with (go_at_call 6; refine (span_ok _ _ _ c1 c2 b1 b2 b3 b4).mono ?_; rintro e w' ⟨rfl, rfl⟩)
      go_ret
      exact ⟨rfl, Below.refl _ _⟩
    · by_cases hneg : a1 - a0 + 1 ≤ 0
      · obtain ⟨c1, c2⟩ := hs
        have hnil := fun (x : Addr) (n c : Nat) (v : World) => run_neq_slice_nil_any (P := Try.prog) v 24 3 (some x) n c 0 0 Try.underlying24
        go_enter Try.func4, Try.ntmps4
        go_wp2_with (first | (go_at_call 6; refine (span_ok _ _ _ c1 c2 b1 b2 b3 b4).mono ?_; rintro e w' ⟨rfl, rfl⟩) | (go_at_call 7; refine (range_empty _ _ _ c1 hneg b1 b2 b3 b4).mono ?_; rintro e w' ⟨rfl, hb⟩))
        go_ret
        exact ⟨rfl, hb⟩
      · obtain ⟨c1, c2⟩ := hs
        obtain ⟨n, hn⟩ : ∃ n : Nat, a1 - a0 + 1 = (n : Int) := ⟨(a1 - a0 + 1).toNat, by omega⟩
        have hpos : 0 < n := by omega
        have hle : n ≤ 65536 := by omega
        have HN := Lib.hid hn
        clear hn
        have hd : decide (65536 < a1 - a0 + 1) = false := decide_eq_false hbig
        have hd2 : decide (a1 - a0 + 1 ≤ 0) = false := decide_eq_false hneg
        have hne : ((n : Int) != a1 - a0 + 1) = false := by rw [HN.out]; simp
        go_enter Try.func4, Try.ntmps4
        go_wp2_with (go_at_call 6; refine (span_ok _ _ _ c1 c2 b1 b2 b3 b4).mono ?_; rintro e w' ⟨rfl, rfl⟩)
        refine (range_full _ _ n _ HN.out hpos hle b1 b2 b3 b4).mono ?_
        rintro e w1 ⟨rfl, hrow, hb⟩
        have HB := Lib.hid hb
        have HR := Lib.hid hrow
        clear hb hrow
        have hc0 : w1.cell? ⟨w.heap.size, 0, none⟩ = some (.int .i64 a0) := by have := HR.out.cell hpos; simpa using this
        have hcl : w1.cell? ⟨w.heap.size, n - 1, none⟩ = some (.int .i64 a1) := by
          have h := HR.out.cell (i := n - 1) (by omega)
          have e : a0 + ((n - 1 : Nat) : Int) = a1 := by have := HN.out; omega
          rw [h, e]
        have hi0 : (0 : Int) ≤ (n : Int) - 1 := by omega
        have hi1 : ((n : Int) - 1).toNat = n - 1 := by omega
        go_wp2
        clear hc0 hcl hi0 hi1
        go_loopw [8] (fun i wr => ∃ m q : Nat, m + 1 ≤ n ∧ i = .int .i64 ((m : Int) + 1) ∧ wr = w1.drewN q) (fun i _ => n - (intOf i).toNat)
        case atStart => exact ⟨0, 0, hpos, rfl, rfl⟩
        case round =>
          obtain ⟨m, q, hm, rfl, rfl⟩ := hrel
          by_cases hlt : m + 1 < n
          · have hc1 : w1.cell? ⟨w.heap.size, m + 1, none⟩ = some (.int .i64 (a0 + (m : Int) + 1)) := by
              have h := HR.out.cell hlt
              have e : a0 + ((m + 1 : Nat) : Int) = a0 + (m : Int) + 1 := by omega
              rw [h, e]
            have hc0 : w1.cell? ⟨w.heap.size, m, none⟩ = some (.int .i64 (a0 + (m : Int))) := HR.out.cell (by omega)
            have hb5 : a0 + (m : Int) + 1 ≤ 9223372036854775807 := by have := HN.out; omega
            have hi1 : ((m : Int) + 1).toNat = m + 1 := by omega
            have hlti : (m : Int) + 1 < (n : Int) := by omega
            have hltm : (m : Int) < (n : Int) := by omega
            have hw1 : IntKind.i64.wrap (a0 + (m : Int) + 1) = a0 + (m : Int) + 1 := IntWalk.i64_in _ (by omega)
            have hw2 : IntKind.i64.wrap ((m : Int) + 1 - 1) = (m : Int) := by rw [show (m : Int) + 1 - 1 = (m : Int) by omega]; exact IntWalk.i64_in _ (by omega)
            go_wp2
            go_quiet (fail)
            go_wp2
            go_roundw
            case rel => exact ⟨m + 1, _, by omega, by go_num, rfl⟩
            case measure => simp [intOf]; omega
          · have hge : ¬ (m : Int) + 1 < (n : Int) := by omega
            go_wp2
            go_ret
            exact ⟨rfl, HB.out.trans ⟨rfl, rfl, rfl, Nat.le_refl _, fun _ _ => rfl⟩⟩
  · go_enter Try.func4, Try.ntmps4
    go_wp2_with (go_at_call 6; refine (span_bad _ _ _ hs b1 b2 b3 b4).mono ?_; rintro e w' ⟨rfl, rfl⟩)
    go_ret
    exact ⟨rfl, Below.refl _ _⟩


set_option maxRecDepth 100000 in
theorem lifted (os : Os) (started : os.Started) (H : Type) (enc : TypeId × Value → H) :
    ReturnsInHanded {} Try.checked os 4 .any (Rows.fnMakeRangeSpansExactlyMinToMaxSpec.pre6 enc Try.prog Try.f4 Rows.fnMakeRangeSpansExactlyMinToMaxRow.domain false) (Rows.fnMakeRangeSpansExactlyMinToMaxSpec.post enc Try.prog Try.f4 false true false false) := by
  refine returnsInHanded_of_change (C := Try.checked) own started (by kernel_rfl) Try.func4
    (ChangeSpec.witness6 (enc := enc) (C := Try.checked) false ⟨#[], #[.int .i64 0, .int .i64 0], []⟩ 8 (by kernel_rfl) (by kernel_rfl) (by kernel_rfl) (by kernel_rfl)) ?_
  intro W base args ds gs before hval0 hW hcnd _
  have hval : ∀ (j : Nat) t v, Try.f4.params[j]? = some t → args[j]? = some v → Value.okWide Try.prog W .any base t v := hval0
  have hW' := hW
  obtain ⟨p, q, hA0, hV, rfl, hfz, hnd⟩ := hW
  have hA : DataW.TrodAll enc Try.prog W 0 (fun _ => true) true Try.f4.params.toList args.toList ds p := hA0
  rw [Try.params4] at hA hval
  obtain ⟨v0, vs0, d0, ds0, p0, q0, hargs, rfl, rfl, h0, r0⟩ := trodAll_cons hA
  obtain ⟨v1, vs1, d1, ds1, p1, q1, rfl, rfl, rfl, h1, r1⟩ := trodAll_cons r0
  obtain ⟨rfl, rfl, rfl⟩ := trodAll_nil r1
  obtain rfl : args = #[v0, v1] := by cases args; simp_all
  obtain ⟨rfl, rfl⟩ := trodVars_none hV
  obtain ⟨a0, rfl, rfl, rfl, w0⟩ := open_int Try.underlying3 (hval 0 3 v0 rfl rfl) h0
  obtain ⟨a1, rfl, rfl, rfl, w1⟩ := open_int Try.underlying3 (hval 1 3 v1 rfl rfl) h1
  clear hA0 hval0
  refine (walk a0 a1 w0 w1 W).mono fun e W' ⟨he, bel⟩ => ?_
  subst he
  exact ⟨_, rfl, _, _, _, [], _, [], hW', trodAll_mk1 (shut_bool Try.underlying4 _), (trodAll_cons_mk (shut_int Try.underlying3 w0) (trodAll_cons_mk (shut_int Try.underlying3 w1) trodAll_mk0)), rfl, bel.frame _, fun h => by cases h⟩

theorem over : Rows.fnMakeRangeSpansExactlyMinToMaxRow.holds Try.pinned (OpenSpec.ofChange Rows.fnMakeRangeSpansExactlyMinToMaxSpec) :=
  OpenClaim.holds_of_wide 4 Try.f4 rfl rfl rfl rfl rfl rfl rfl ⟨rfl, rfl, rfl, rfl, rfl⟩ rfl rfl rfl rfl rfl (by kernel_rfl) Try.func4 (by kernel_rfl)
    (of_decide_eq_true (by kernel_rfl)) (by unfold Func.isWrapper; first | (rw [if_pos (by decide +kernel)]; kernel_rfl) | (rw [if_neg (by decide +kernel)]; exact ⟨rfl, rfl⟩))
    (fun os started H enc _ => lifted os started H enc)

theorem proved : Rows.FnMakeRangeSpansExactlyMinToMaxSaid :=
  over
end Go.Proofs.Ytnbicogkbcccdaa.fnMakeRangeSpansExactlyMinToMax
