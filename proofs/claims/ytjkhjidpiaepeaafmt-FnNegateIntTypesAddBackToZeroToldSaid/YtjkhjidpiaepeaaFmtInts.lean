/-
  For every value x of each of the ten integer types: Negate keeps x's type, and x plus the result is zero in that type's wrapping arithmetic. No condition of ours; the road passes no call of fmt that is made (the card's fmt texts are told, none is asked).
-/
import Derived.Test.YtjkhjidpiaepeaaFmtCards
import Derived.WalkKit
import Derived.ProofKit
import Derived.OpenShut
import Derived.ShutString
import Derived.ChangeOld
import Derived.Below
import Derived.SevenToldRow
import Derived.Stop.JoinedTold
import Derived.Test.YtjkhjidpiaepeaaFmtNegate
import Derived.Handy
namespace Go.Proofs.YtjkhjidpiaepeaaFmt.fnNegateIntTypesAddBackToZero
open Go.ChangeShapes Go.WideShapes Go.ChangeAt Go.RowKit
set_option linter.unusedVariables false

theorem own : ownKnob Tryf.prog.godebug = none := by kernel_rfl
theorem laidOut : laidOutB Tryf.pinned.checked.prog = true := by kernel_rfl
theorem stops : Tryf.pinned.checked.prog.stops = ["fmt.Sprintf"] := by kernel_rfl
theorem stopKnobs : Tryf.pinned.checked.prog.stopKnobs = [] := by kernel_rfl
theorem quiet (os : Os) : Stop.quiet Tryf.pinned.checked.prog os := by
  intro k hk
  rw [stopKnobs] at hk
  cases hk

theorem z64 (x : Int) : wrap64 (x + wrap64 (-x)) = 0 := by unfold wrap64; omega
theorem z32 (x : Int) : wrap32 (x + wrap32 (-x)) = 0 := by unfold wrap32; omega
theorem z8 (x : Int) : IntKind.i8.wrap (x + IntKind.i8.wrap (-x)) = 0 := by simp only [IntKind.wrap, IntKind.bits, IntKind.signed]; simp; omega
theorem z16 (x : Int) : IntKind.i16.wrap (x + IntKind.i16.wrap (-x)) = 0 := by simp only [IntKind.wrap, IntKind.bits, IntKind.signed]; simp; omega
theorem zu8 (x : Int) : IntKind.u8.wrap (x + IntKind.u8.wrap (-x)) = 0 := by simp only [IntKind.wrap, IntKind.bits, IntKind.signed]; simp; omega
theorem zu16 (x : Int) : IntKind.u16.wrap (x + IntKind.u16.wrap (-x)) = 0 := by simp only [IntKind.wrap, IntKind.bits, IntKind.signed]; simp; omega
theorem zu32 (x : Int) : IntKind.u32.wrap (x + IntKind.u32.wrap (-x)) = 0 := by simp only [IntKind.wrap, IntKind.bits, IntKind.signed]; simp; omega
theorem zu64 (x : Int) : IntKind.u64.wrap (x + IntKind.u64.wrap (-x)) = 0 := by simp only [IntKind.wrap, IntKind.bits, IntKind.signed]; simp; omega

theorem walk (a0 a1 a2 a3 a4 a5 a6 a7 a8 a9 : Int) (w : World) (w0 : (Lit.int .i64 a0).wf = true) (w1 : (Lit.int .i8 a1).wf = true) (w2 : (Lit.int .i16 a2).wf = true) (w3 : (Lit.int .i32 a3).wf = true) (w4 : (Lit.int .i64 a4).wf = true) (w5 : (Lit.int .u64 a5).wf = true) (w6 : (Lit.int .u8 a6).wf = true) (w7 : (Lit.int .u16 a7).wf = true) (w8 : (Lit.int .u32 a8).wf = true) (w9 : (Lit.int .u64 a9).wf = true) :
    Calls Tryf.prog 4 #[.int .i64 a0, .int .i8 a1, .int .i16 a2, .int .i32 a3, .int .i64 a4, .int .u64 a5, .int .u8 a6, .int .u16 a7, .int .u32 a8, .int .u64 a9] w fun e w' => e = .returned (.bool true) ∧ Below w.heap.size w w' := by
  clear w0 w1 w2 w3 w4 w5 w6 w7 w8 w9
  have e0 := z64 a0
  have e1 := z8 a1
  have e2 := z16 a2
  have e3 := z32 a3
  have e4 := z64 a4
  have e5 := zu64 a5
  have e6 := zu8 a6
  have e7 := zu16 a7
  have e8 := zu32 a8
  have e9 := zu64 a9
  go_enter Tryf.func4, Tryf.ntmps4
  go_wp2_with (first | (go_at_call 9; refine (conv3 _ _).mono ?_; rintro e w' ⟨rfl, rfl⟩) | (go_at_call 10; refine (conv29 _ _).mono ?_; rintro e w' ⟨rfl, rfl⟩) | (go_at_call 11; refine (conv30 _ _).mono ?_; rintro e w' ⟨rfl, rfl⟩) | (go_at_call 12; refine (conv21 _ _).mono ?_; rintro e w' ⟨rfl, rfl⟩) | (go_at_call 13; refine (conv2 _ _).mono ?_; rintro e w' ⟨rfl, rfl⟩) | (go_at_call 14; refine (conv31 _ _).mono ?_; rintro e w' ⟨rfl, rfl⟩) | (go_at_call 15; refine (conv5 _ _).mono ?_; rintro e w' ⟨rfl, rfl⟩) | (go_at_call 16; refine (conv32 _ _).mono ?_; rintro e w' ⟨rfl, rfl⟩) | (go_at_call 17; refine (conv33 _ _).mono ?_; rintro e w' ⟨rfl, rfl⟩) | (go_at_call 18; refine (conv34 _ _).mono ?_; rintro e w' ⟨rfl, rfl⟩))
  go_ret
  exact ⟨rfl, Below.refl _ _⟩

set_option maxRecDepth 100000 in
theorem lifted (os : Os) (started : os.Started) (H : Type) (enc : TypeId × Value → H) :
    ReturnsInTold none {} Tryf.checked os 4 .any Input.okWide ((OpenSpec.ofChange Rows.fnNegateIntTypesAddBackToZeroSpec).preRow enc Tryf.prog Tryf.f4 [] false []) (fun F => ((OpenSpec.ofChange Rows.fnNegateIntTypesAddBackToZeroSpec).at F).post enc Tryf.prog Tryf.f4 false true false false) (aloneAtReturn Tryf.prog) nothingAlways := by
  refine returnsInTold_of_row (C := Tryf.checked) (s := OpenSpec.ofChange Rows.fnNegateIntTypesAddBackToZeroSpec) (by kernel_rfl) own started (by kernel_rfl) Tryf.func4
    (OpenSpec.witness_stopped (enc := enc) (C := Tryf.checked) false ⟨#[], #[.int .i64 0, .int .i8 0, .int .i16 0, .int .i32 0, .int .i64 0, .int .u64 0, .int .u8 0, .int .u16 0, .int .u32 0, .int .u64 0], []⟩ 8 (by kernel_rfl) (by kernel_rfl) (by kernel_rfl) (by kernel_rfl)) ?_
  intro F W base args ds gs before _ hF hval0 hW _ _ hsz _ _
  have hval : ∀ (j : Nat) t v, Tryf.f4.params[j]? = some t → args[j]? = some v → Value.okWide Tryf.prog W .any base t v := hval0
  have hW' := hW
  obtain ⟨p, q, hA0, hV, rfl, hfz, hnd⟩ := hW
  have hA : DataW.TrodAll enc Tryf.prog W 0 (fun _ => true) true Tryf.f4.params.toList args.toList ds p := hA0
  rw [Tryf.params4] at hA hval
  obtain ⟨v0, vs0, d0, ds0, p0, q0, hargs, rfl, rfl, h0, r0⟩ := trodAll_cons hA
  obtain ⟨v1, vs1, d1, ds1, p1, q1, rfl, rfl, rfl, h1, r1⟩ := trodAll_cons r0
  obtain ⟨v2, vs2, d2, ds2, p2, q2, rfl, rfl, rfl, h2, r2⟩ := trodAll_cons r1
  obtain ⟨v3, vs3, d3, ds3, p3, q3, rfl, rfl, rfl, h3, r3⟩ := trodAll_cons r2
  obtain ⟨v4, vs4, d4, ds4, p4, q4, rfl, rfl, rfl, h4, r4⟩ := trodAll_cons r3
  obtain ⟨v5, vs5, d5, ds5, p5, q5, rfl, rfl, rfl, h5, r5⟩ := trodAll_cons r4
  obtain ⟨v6, vs6, d6, ds6, p6, q6, rfl, rfl, rfl, h6, r6⟩ := trodAll_cons r5
  obtain ⟨v7, vs7, d7, ds7, p7, q7, rfl, rfl, rfl, h7, r7⟩ := trodAll_cons r6
  obtain ⟨v8, vs8, d8, ds8, p8, q8, rfl, rfl, rfl, h8, r8⟩ := trodAll_cons r7
  obtain ⟨v9, vs9, d9, ds9, p9, q9, rfl, rfl, rfl, h9, r9⟩ := trodAll_cons r8
  obtain ⟨rfl, rfl, rfl⟩ := trodAll_nil r9
  obtain rfl : args = #[v0, v1, v2, v3, v4, v5, v6, v7, v8, v9] := by cases args; simp_all
  obtain ⟨rfl, rfl⟩ := trodVars_none hV
  obtain ⟨a0, rfl, rfl, rfl, w0⟩ := open_int Tryf.underlying3 (hval 0 3 v0 rfl rfl) h0
  obtain ⟨a1, rfl, rfl, rfl, w1⟩ := open_int Tryf.underlying29 (hval 1 29 v1 rfl rfl) h1
  obtain ⟨a2, rfl, rfl, rfl, w2⟩ := open_int Tryf.underlying30 (hval 2 30 v2 rfl rfl) h2
  obtain ⟨a3, rfl, rfl, rfl, w3⟩ := open_int Tryf.underlying21 (hval 3 21 v3 rfl rfl) h3
  obtain ⟨a4, rfl, rfl, rfl, w4⟩ := open_int Tryf.underlying2 (hval 4 2 v4 rfl rfl) h4
  obtain ⟨a5, rfl, rfl, rfl, w5⟩ := open_int Tryf.underlying31 (hval 5 31 v5 rfl rfl) h5
  obtain ⟨a6, rfl, rfl, rfl, w6⟩ := open_int Tryf.underlying5 (hval 6 5 v6 rfl rfl) h6
  obtain ⟨a7, rfl, rfl, rfl, w7⟩ := open_int Tryf.underlying32 (hval 7 32 v7 rfl rfl) h7
  obtain ⟨a8, rfl, rfl, rfl, w8⟩ := open_int Tryf.underlying33 (hval 8 33 v8 rfl rfl) h8
  obtain ⟨a9, rfl, rfl, rfl, w9⟩ := open_int Tryf.underlying34 (hval 9 34 v9 rfl rfl) h9
  clear hA0 hval0
  refine (walk a0 a1 a2 a3 a4 a5 a6 a7 a8 a9 W w0 w1 w2 w3 w4 w5 w6 w7 w8 w9).mono fun e W' ⟨he, bel⟩ => ?_
  subst he
  exact ⟨_, rfl, _, _, _, [], _, [], hW', trodAll_mk1 (shut_bool Tryf.underlying4 _), (trodAll_cons_mk (shut_int Tryf.underlying3 w0) (trodAll_cons_mk (shut_int Tryf.underlying29 w1) (trodAll_cons_mk (shut_int Tryf.underlying30 w2) (trodAll_cons_mk (shut_int Tryf.underlying21 w3) (trodAll_cons_mk (shut_int Tryf.underlying2 w4) (trodAll_cons_mk (shut_int Tryf.underlying31 w5) (trodAll_cons_mk (shut_int Tryf.underlying5 w6) (trodAll_cons_mk (shut_int Tryf.underlying32 w7) (trodAll_cons_mk (shut_int Tryf.underlying33 w8) (trodAll_cons_mk (shut_int Tryf.underlying34 w9) trodAll_mk0)))))))))), rfl, bel.frame _, fun h => by cases h⟩

theorem proved : Rows.FnNegateIntTypesAddBackToZeroToldSaid :=
  Claim7.holds_of_told_any 4 Tryf.f4 "fmt.Sprintf" [] [] _ _ _ (by kernel_rfl) rfl rfl rfl laidOut (by kernel_rfl) rfl ⟨rfl, rfl, rfl, rfl, rfl, rfl, rfl⟩ rfl rfl (by kernel_rfl) (by kernel_rfl) Tryf.func4 (by kernel_rfl)
    (of_decide_eq_true (by kernel_rfl)) (by unfold Func.isWrapper; first | (rw [if_pos (by decide +kernel)]; kernel_rfl) | (rw [if_neg (by decide +kernel)]; exact ⟨rfl, rfl⟩)) stops.symm rfl stopKnobs.symm (by kernel_rfl)
    (by kernel_rfl) (by kernel_rfl) (by kernel_rfl) (by kernel_rfl) (by kernel_rfl) (by kernel_rfl) (by kernel_rfl) (by kernel_rfl) (by kernel_rfl) rfl (by kernel_rfl) rfl rfl
    rfl rfl
    rfl (by kernel_rfl) (by kernel_rfl) (by kernel_rfl) (by decide) (by kernel_rfl)
    (OpenClaim.moreEntering_of (by kernel_rfl) (by kernel_rfl) (by kernel_rfl) (by kernel_rfl) (by kernel_rfl) (by kernel_rfl) (by kernel_rfl) (by kernel_rfl) (by kernel_rfl) (by kernel_rfl))
    ⟨_, WideRow.started_initial, quiet _⟩
    (fun os started _ H enc _ => lifted os started H enc)
end Go.Proofs.YtjkhjidpiaepeaaFmt.fnNegateIntTypesAddBackToZero
