/-
  For every float64 x and float32 y that is no NaN: Negate keeps the type, gives a value equal to 0 - x, and carries the opposite sign; a NaN gives a NaN. No condition of ours; the road passes no call of fmt that is made (the card's fmt texts are told, none is asked).
-/
import Derived.Test.YtjkhjidpiaepeaaFmtCards
import Derived.WalkKit
import Derived.ProofKit
import Derived.OpenShut
import Derived.ShutString
import Derived.ChangeOld
import Derived.Below
import Derived.SevenToldRow
import Derived.Stop.JoinedTold
import Derived.Test.YtjkhjidpiaepeaaFmtFloat
import Derived.Handy
import Derived.Laws.Cover2
namespace Go.Proofs.YtjkhjidpiaepeaaFmt.fnNegateFloatsFlipSign
open Go.ChangeShapes Go.WideShapes Go.ChangeAt Go.RowKit
set_option linter.unusedVariables false

theorem own : ownKnob Tryf.prog.godebug = none := by kernel_rfl
theorem laidOut : laidOutB Tryf.pinned.checked.prog = true := by kernel_rfl
theorem stops : Tryf.pinned.checked.prog.stops = ["fmt.Sprintf"] := by kernel_rfl
theorem stopKnobs : Tryf.pinned.checked.prog.stopKnobs = [] := by kernel_rfl
theorem quiet (os : Os) : Stop.quiet Tryf.pinned.checked.prog os := by
  intro k hk
  rw [stopKnobs] at hk
  cases hk

/-- What the walk is told of a word and of the word with its sign flipped, where it is no NaN. -/
structure Fine (k : FloatKind) (T : TypeId) (x nx r : Nat) : Prop where
  neg : Op.negFloat k x = nx
  self : (k.format.order x x != some .eq) = false
  sub : ∀ v : World, (binOp .sub T (.float k 0) (.float k x)).run Tryf.prog v = .ok (.float k r) v
  same : (k.format.order nx r != some .eq) = false

theorem fine_of (k : FloatKind) (T : TypeId) (s : Bool) (rung : Nat) (hb : k.format.binade ≤ k.format.infRung) (hs : rung < k.format.signWeight) (h : rung ≤ k.format.infRung) :
    ∃ r, Fine k T (k.format.word s rung) (k.format.word (!s) rung) r := by
  obtain ⟨r, h1, h2⟩ := sub_flip k.format s rung hb hs h
  exact ⟨r, flip_word k.format s rung hs, by rw [self_eq k.format s rung hb hs h]; rfl, fun v => run_float_arith (P := Tryf.prog) v .sub T k 0 _ r h1, by rw [h2]; rfl⟩

/-- The same at a NaN. -/
structure Nan (k : FloatKind) (x nx : Nat) : Prop where
  neg : Op.negFloat k x = nx
  self : (k.format.order x x != some .eq) = true
  flip : k.format.order nx nx = none

theorem nan_of (k : FloatKind) (s : Bool) (rung : Nat) (hb : k.format.binade ≤ k.format.infRung) (hs : rung < k.format.signWeight) (h : k.format.infRung < rung) : Nan k (k.format.word s rung) (k.format.word (!s) rung) :=
  ⟨flip_word k.format s rung hs, by rw [self_nan k.format s rung hb hs h]; rfl, self_nan k.format (!s) rung hb hs h⟩

theorem walk (a0 a1 : Nat) (w : World) (w0 : (Lit.float .f64 a0).wf = true) (w1 : (Lit.float .f32 a1).wf = true) :
    Calls Tryf.prog 3 #[.float .f64 a0, .float .f32 a1] w fun e w' => e = .returned (.bool true) ∧ Below w.heap.size w w' := by
  have hx : a0 < 2 * Ieee.double.signWeight := by
    simp only [Lit.wf, decide_eq_true_eq] at w0
    have e : 2 * Ieee.double.signWeight = 2 ^ 64 := by decide
    rw [e]; exact w0
  have hy : a1 < 2 * Ieee.single.signWeight := by
    simp only [Lit.wf, decide_eq_true_eq] at w1
    have e : 2 * Ieee.single.signWeight = 2 ^ 32 := by decide
    rw [e]; exact w1
  obtain ⟨s, ru, hru, rfl⟩ := word_of _ a0 hx
  obtain ⟨t, rv, hrv, rfl⟩ := word_of _ a1 hy
  clear hx hy w0 w1
  by_cases cx : ru ≤ Ieee.double.infRung
  · obtain ⟨r, F⟩ := fine_of .f64 22 s ru bin_f64 hru cx
    have S1 := Lib.hid (fun v => sign_f64 s ru v hru cx)
    have S2 := Lib.hid (fun v => sign_f64 (!s) ru v hru cx)
    by_cases cy : rv ≤ Ieee.single.infRung
    · obtain ⟨q, G⟩ := fine_of .f32 23 t rv bin_f32 hrv cy
      have T1 := Lib.hid (fun v => sign_f32 t rv v hrv cy)
      have T2 := Lib.hid (fun v => sign_f32 (!t) rv v hrv cy)
      change Fine .f64 22 (Ieee.double.word s ru) (Ieee.double.word (!s) ru) r at F
      change Fine .f32 23 (Ieee.single.word t rv) (Ieee.single.word (!t) rv) q at G
      generalize Ieee.double.word s ru = x at F S1 ⊢
      generalize Ieee.double.word (!s) ru = nx at F S2
      generalize Ieee.single.word t rv = y at G T1 ⊢
      generalize Ieee.single.word (!t) rv = ny at G T2
      have f1 := F.self
      have f2 := F.sub
      have f3 := F.same
      have g1 := G.self
      have g2 := G.sub
      have g3 := G.same
      have FN := Lib.hid F.neg
      have GN := Lib.hid G.neg
      clear F G
      cases s <;> cases t <;> simp only [Bool.not_true, Bool.not_false] at S1 S2 T1 T2
      all_goals
        go_enter Tryf.func3, Tryf.ntmps3
        go_wp2_with (go_at_call 5; refine (conv22 _ nx FN.out _).mono ?_; rintro e w' ⟨rfl, rfl⟩)
        refine (S2.out _).mono ?_
        rintro e w' ⟨rfl, rfl⟩
        go_wp2_with fail
        refine (S1.out _).mono ?_
        rintro e w' ⟨rfl, rfl⟩
        go_wp2_with (go_at_call 7; refine (conv23 _ ny GN.out _).mono ?_; rintro e w' ⟨rfl, rfl⟩)
        refine (T2.out _).mono ?_
        rintro e w' ⟨rfl, rfl⟩
        go_wp2_with fail
        refine (T1.out _).mono ?_
        rintro e w' ⟨rfl, rfl⟩
        go_wp2
        go_ret
        exact ⟨rfl, Below.refl _ _⟩
    · have G := nan_of .f32 t rv bin_f32 hrv (by show Ieee.single.infRung < rv; omega)
      change Fine .f64 22 (Ieee.double.word s ru) (Ieee.double.word (!s) ru) r at F
      change Nan .f32 (Ieee.single.word t rv) (Ieee.single.word (!t) rv) at G
      generalize Ieee.double.word s ru = x at F S1 ⊢
      generalize Ieee.double.word (!s) ru = nx at F S2
      generalize Ieee.single.word t rv = y at G ⊢
      generalize Ieee.single.word (!t) rv = ny at G
      have f1 := F.self
      have f2 := F.sub
      have f3 := F.same
      have g1 := G.self
      have g2 : (FloatKind.f32.format.order ny ny != some .eq) = true := by rw [G.flip]; rfl
      have FN := Lib.hid F.neg
      have GN := Lib.hid G.neg
      clear F G
      cases s <;> simp only [Bool.not_true, Bool.not_false] at S1 S2
      all_goals
        go_enter Tryf.func3, Tryf.ntmps3
        go_wp2_with (go_at_call 5; refine (conv22 _ nx FN.out _).mono ?_; rintro e w' ⟨rfl, rfl⟩)
        refine (S2.out _).mono ?_
        rintro e w' ⟨rfl, rfl⟩
        go_wp2_with fail
        refine (S1.out _).mono ?_
        rintro e w' ⟨rfl, rfl⟩
        go_wp2_with (go_at_call 7; refine (conv23 _ ny GN.out _).mono ?_; rintro e w' ⟨rfl, rfl⟩)
        go_ret
        exact ⟨rfl, Below.refl _ _⟩
  · have F := nan_of .f64 s ru bin_f64 hru (by show Ieee.double.infRung < ru; omega)
    by_cases cy : rv ≤ Ieee.single.infRung
    · obtain ⟨q, G⟩ := fine_of .f32 23 t rv bin_f32 hrv cy
      have T1 := Lib.hid (fun v => sign_f32 t rv v hrv cy)
      have T2 := Lib.hid (fun v => sign_f32 (!t) rv v hrv cy)
      change Nan .f64 (Ieee.double.word s ru) (Ieee.double.word (!s) ru) at F
      change Fine .f32 23 (Ieee.single.word t rv) (Ieee.single.word (!t) rv) q at G
      generalize Ieee.double.word s ru = x at F ⊢
      generalize Ieee.double.word (!s) ru = nx at F
      generalize Ieee.single.word t rv = y at G T1 ⊢
      generalize Ieee.single.word (!t) rv = ny at G T2
      have f1 := F.self
      have f2 : (FloatKind.f64.format.order nx nx == some .eq) = false := by rw [F.flip]; rfl
      have g1 := G.self
      have g2 := G.sub
      have g3 := G.same
      have FN := Lib.hid F.neg
      have GN := Lib.hid G.neg
      clear F G
      cases t <;> simp only [Bool.not_true, Bool.not_false] at T1 T2
      all_goals
        go_enter Tryf.func3, Tryf.ntmps3
        go_wp2_with (first | (go_at_call 5; refine (conv22 _ nx FN.out _).mono ?_; rintro e w' ⟨rfl, rfl⟩) | (go_at_call 7; refine (conv23 _ ny GN.out _).mono ?_; rintro e w' ⟨rfl, rfl⟩))
        refine (T2.out _).mono ?_
        rintro e w' ⟨rfl, rfl⟩
        go_wp2_with fail
        refine (T1.out _).mono ?_
        rintro e w' ⟨rfl, rfl⟩
        go_wp2
        go_ret
        exact ⟨rfl, Below.refl _ _⟩
    · have G := nan_of .f32 t rv bin_f32 hrv (by show Ieee.single.infRung < rv; omega)
      change Nan .f64 (Ieee.double.word s ru) (Ieee.double.word (!s) ru) at F
      change Nan .f32 (Ieee.single.word t rv) (Ieee.single.word (!t) rv) at G
      generalize Ieee.double.word s ru = x at F ⊢
      generalize Ieee.double.word (!s) ru = nx at F
      generalize Ieee.single.word t rv = y at G ⊢
      generalize Ieee.single.word (!t) rv = ny at G
      have f1 := F.self
      have f2 : (FloatKind.f64.format.order nx nx == some .eq) = false := by rw [F.flip]; rfl
      have g1 := G.self
      have g2 : (FloatKind.f32.format.order ny ny != some .eq) = true := by rw [G.flip]; rfl
      have FN := Lib.hid F.neg
      have GN := Lib.hid G.neg
      clear F G
      go_enter Tryf.func3, Tryf.ntmps3
      go_wp2_with (first | (go_at_call 5; refine (conv22 _ nx FN.out _).mono ?_; rintro e w' ⟨rfl, rfl⟩) | (go_at_call 7; refine (conv23 _ ny GN.out _).mono ?_; rintro e w' ⟨rfl, rfl⟩))
      go_ret
      exact ⟨rfl, Below.refl _ _⟩

set_option maxRecDepth 100000 in
theorem lifted (os : Os) (started : os.Started) (H : Type) (enc : TypeId × Value → H) :
    ReturnsInTold none {} Tryf.checked os 3 .any Input.okWide ((OpenSpec.ofChange Rows.fnNegateFloatsFlipSignSpec).preRow enc Tryf.prog Tryf.f3 [] false []) (fun F => ((OpenSpec.ofChange Rows.fnNegateFloatsFlipSignSpec).at F).post enc Tryf.prog Tryf.f3 false true false false) (aloneAtReturn Tryf.prog) nothingAlways := by
  refine returnsInTold_of_row (C := Tryf.checked) (s := OpenSpec.ofChange Rows.fnNegateFloatsFlipSignSpec) (by kernel_rfl) own started (by kernel_rfl) Tryf.func3
    (OpenSpec.witness_stopped (enc := enc) (C := Tryf.checked) false ⟨#[], #[.float .f64 0, .float .f32 0], []⟩ 8 (by kernel_rfl) (by kernel_rfl) (by kernel_rfl) (by kernel_rfl)) ?_
  intro F W base args ds gs before _ hF hval0 hW _ _ hsz _ _
  have hval : ∀ (j : Nat) t v, Tryf.f3.params[j]? = some t → args[j]? = some v → Value.okWide Tryf.prog W .any base t v := hval0
  have hW' := hW
  obtain ⟨p, q, hA0, hV, rfl, hfz, hnd⟩ := hW
  have hA : DataW.TrodAll enc Tryf.prog W 0 (fun _ => true) true Tryf.f3.params.toList args.toList ds p := hA0
  rw [Tryf.params3] at hA hval
  obtain ⟨v0, vs0, d0, ds0, p0, q0, hargs, rfl, rfl, h0, r0⟩ := trodAll_cons hA
  obtain ⟨v1, vs1, d1, ds1, p1, q1, rfl, rfl, rfl, h1, r1⟩ := trodAll_cons r0
  obtain ⟨rfl, rfl, rfl⟩ := trodAll_nil r1
  obtain rfl : args = #[v0, v1] := by cases args; simp_all
  obtain ⟨rfl, rfl⟩ := trodVars_none hV
  obtain ⟨a0, rfl, rfl, rfl, w0⟩ := open_float Tryf.underlying22 (hval 0 22 v0 rfl rfl) h0
  obtain ⟨a1, rfl, rfl, rfl, w1⟩ := open_float Tryf.underlying23 (hval 1 23 v1 rfl rfl) h1
  clear hA0 hval0
  refine (walk a0 a1 W w0 w1).mono fun e W' ⟨he, bel⟩ => ?_
  subst he
  exact ⟨_, rfl, _, _, _, [], _, [], hW', trodAll_mk1 (shut_bool Tryf.underlying4 _), (trodAll_cons_mk (shut_float Tryf.underlying22 w0) (trodAll_cons_mk (shut_float Tryf.underlying23 w1) trodAll_mk0)), rfl, bel.frame _, fun h => by cases h⟩

theorem proved : Rows.FnNegateFloatsFlipSignToldSaid :=
  Claim7.holds_of_told_any 3 Tryf.f3 "fmt.Sprintf" [] [] _ _ _ (by kernel_rfl) rfl rfl rfl laidOut (by kernel_rfl) rfl ⟨rfl, rfl, rfl, rfl, rfl, rfl, rfl⟩ rfl rfl (by kernel_rfl) (by kernel_rfl) Tryf.func3 (by kernel_rfl)
    (of_decide_eq_true (by kernel_rfl)) (by unfold Func.isWrapper; first | (rw [if_pos (by decide +kernel)]; kernel_rfl) | (rw [if_neg (by decide +kernel)]; exact ⟨rfl, rfl⟩)) stops.symm rfl stopKnobs.symm (by kernel_rfl)
    (by kernel_rfl) (by kernel_rfl) (by kernel_rfl) (by kernel_rfl) (by kernel_rfl) (by kernel_rfl) (by kernel_rfl) (by kernel_rfl) (by kernel_rfl) rfl (by kernel_rfl) rfl rfl
    rfl rfl
    rfl (by kernel_rfl) (by kernel_rfl) (by kernel_rfl) (by decide) (by kernel_rfl)
    (OpenClaim.moreEntering_of (by kernel_rfl) (by kernel_rfl) (by kernel_rfl) (by kernel_rfl) (by kernel_rfl) (by kernel_rfl) (by kernel_rfl) (by kernel_rfl) (by kernel_rfl) (by kernel_rfl))
    ⟨_, WideRow.started_initial, quiet _⟩
    (fun os started _ H enc _ => lifted os started H enc)
end Go.Proofs.YtjkhjidpiaepeaaFmt.fnNegateFloatsFlipSign
