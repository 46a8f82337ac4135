/-
  Negate at the two float types and the law's own sign tests, by contracts.
-/
import Derived.Test.YtjkhjidpiaepeaaFmtNegate
import Derived.Test.YtjkhjidpiaepeaaFmtSigns
import Derived.Lib.Hide
namespace Go.Proofs.YtjkhjidpiaepeaaFmt
open Go.RowKit
set_option linter.unusedVariables false

theorem neg22 (b nb : Nat) (h : Op.negFloat .f64 b = nb) (w : World) : Calls Tryf.prog 19 #[.iface 22 (.float .f64 b)] w fun e w' => e = .returned (.iface 22 (.float .f64 nb)) ∧ w = w' := by
  have hu : ∀ v : World, (Op.unary .neg (.float .f64 b)).run Tryf.prog v = .ok (.float .f64 nb) v := fun v => by rw [← h]; rfl
  have h0 := no22_23
  have hy := is22
  clear h
  go_enter Tryf.func19, Tryf.ntmps19
  go_wp2
  go_ret
  exact ⟨rfl, rfl⟩
theorem neg23 (b nb : Nat) (h : Op.negFloat .f32 b = nb) (w : World) : Calls Tryf.prog 19 #[.iface 23 (.float .f32 b)] w fun e w' => e = .returned (.iface 23 (.float .f32 nb)) ∧ w = w' := by
  have hu : ∀ v : World, (Op.unary .neg (.float .f32 b)).run Tryf.prog v = .ok (.float .f32 nb) v := fun v => by rw [← h]; rfl
  have hy := is23
  clear h
  go_enter Tryf.func19, Tryf.ntmps19
  go_wp2
  go_ret
  exact ⟨rfl, rfl⟩
theorem conv22 (b nb : Nat) (h : Op.negFloat .f64 b = nb) (w : World) : Calls Tryf.prog 5 #[.float .f64 b] w fun e w' => e = .returned (.float .f64 nb) ∧ w = w' := by
  have ht := to22
  have H := Lib.hid h
  clear h
  go_enter Tryf.func5, Tryf.ntmps5
  go_wp2_with (go_at_call 19; refine (neg22 _ nb H.out _).mono ?_; rintro e w' ⟨rfl, rfl⟩)
  go_ret
  exact ⟨rfl, rfl⟩
theorem conv23 (b nb : Nat) (h : Op.negFloat .f32 b = nb) (w : World) : Calls Tryf.prog 7 #[.float .f32 b] w fun e w' => e = .returned (.float .f32 nb) ∧ w = w' := by
  have ht := to23
  have H := Lib.hid h
  clear h
  go_enter Tryf.func7, Tryf.ntmps7
  go_wp2_with (go_at_call 19; refine (neg23 _ nb H.out _).mono ?_; rintro e w' ⟨rfl, rfl⟩)
  go_ret
  exact ⟨rfl, rfl⟩

theorem bin_f64 : Ieee.double.binade ≤ Ieee.double.infRung := by decide
theorem one_f64 : ∃ m e, Ieee.double.read 4607182418800017408 = .number false m e ∧ m ≠ 0 := ⟨_, _, rfl, by decide +kernel⟩

theorem sign_f64_side (b : Nat) (s : Bool) (w : World) (h : FloatKind.f64.format.order b 0 = some (if s then .lt else .gt)) : Calls Tryf.prog 6 #[.float .f64 b] w fun e w' => e = .returned (.bool s) ∧ w = w' := by
  have h1 : (FloatKind.f64.format.order b 0 == some .lt) = s := by rw [h]; cases s <;> rfl
  have h2 : (FloatKind.f64.format.order b 0 == some .eq) = false := by rw [h]; cases s <;> rfl
  clear h
  cases s with
  | false =>
    go_enter Tryf.func6, Tryf.ntmps6
    go_wp2
    go_ret
    exact ⟨rfl, rfl⟩
  | true =>
    go_enter Tryf.func6, Tryf.ntmps6
    go_wp2
    go_ret
    exact ⟨rfl, rfl⟩

theorem sign_f64_zero (b q : Nat) (s : Bool) (w : World) (h : FloatKind.f64.format.order b 0 = some .eq) (hd : FloatKind.f64.format.div 4607182418800017408 b = some q) (hq : FloatKind.f64.format.order q 0 = some (if s then .lt else .gt)) : Calls Tryf.prog 6 #[.float .f64 b] w fun e w' => e = .returned (.bool s) ∧ w = w' := by
  have h1 : (FloatKind.f64.format.order b 0 == some .lt) = false := by rw [h]; rfl
  have h2 : (FloatKind.f64.format.order b 0 == some .eq) = true := by rw [h]; rfl
  have h3 : (FloatKind.f64.format.order q 0 == some .lt) = s := by rw [hq]; cases s <;> rfl
  have hr := fun v : World => run_float_arith (P := Tryf.prog) v .quo 22 .f64 4607182418800017408 b q hd
  clear h hd hq
  cases s with
  | false =>
    go_enter Tryf.func6, Tryf.ntmps6
    go_wp2
    go_ret
    exact ⟨rfl, rfl⟩
  | true =>
    go_enter Tryf.func6, Tryf.ntmps6
    go_wp2
    go_ret
    exact ⟨rfl, rfl⟩

/-- The law's sign test at a word that is no NaN: its sign bit. -/
theorem sign_f64 (s : Bool) (rung : Nat) (w : World) (hs : rung < Ieee.double.signWeight) (h : rung ≤ Ieee.double.infRung) : Calls Tryf.prog 6 #[.float .f64 (Ieee.double.word s rung)] w fun e w' => e = .returned (.bool s) ∧ w = w' := by
  by_cases h0 : rung = 0
  · subst h0
    obtain ⟨m, e, hone, hm⟩ := one_f64
    exact sign_f64_zero _ _ s w (zero_eq _ s bin_f64) (div_zero _ _ m e s bin_f64 hone hm) (zero_side _ s _ bin_f64 (inf_lt _) (Nat.le_refl _) (by decide))
  · exact sign_f64_side _ s w (zero_side _ s rung bin_f64 hs h h0)

theorem bin_f32 : Ieee.single.binade ≤ Ieee.single.infRung := by decide
theorem one_f32 : ∃ m e, Ieee.single.read 1065353216 = .number false m e ∧ m ≠ 0 := ⟨_, _, rfl, by decide +kernel⟩

theorem sign_f32_side (b : Nat) (s : Bool) (w : World) (h : FloatKind.f32.format.order b 0 = some (if s then .lt else .gt)) : Calls Tryf.prog 8 #[.float .f32 b] w fun e w' => e = .returned (.bool s) ∧ w = w' := by
  have h1 : (FloatKind.f32.format.order b 0 == some .lt) = s := by rw [h]; cases s <;> rfl
  have h2 : (FloatKind.f32.format.order b 0 == some .eq) = false := by rw [h]; cases s <;> rfl
  clear h
  cases s with
  | false =>
    go_enter Tryf.func8, Tryf.ntmps8
    go_wp2
    go_ret
    exact ⟨rfl, rfl⟩
  | true =>
    go_enter Tryf.func8, Tryf.ntmps8
    go_wp2
    go_ret
    exact ⟨rfl, rfl⟩

theorem sign_f32_zero (b q : Nat) (s : Bool) (w : World) (h : FloatKind.f32.format.order b 0 = some .eq) (hd : FloatKind.f32.format.div 1065353216 b = some q) (hq : FloatKind.f32.format.order q 0 = some (if s then .lt else .gt)) : Calls Tryf.prog 8 #[.float .f32 b] w fun e w' => e = .returned (.bool s) ∧ w = w' := by
  have h1 : (FloatKind.f32.format.order b 0 == some .lt) = false := by rw [h]; rfl
  have h2 : (FloatKind.f32.format.order b 0 == some .eq) = true := by rw [h]; rfl
  have h3 : (FloatKind.f32.format.order q 0 == some .lt) = s := by rw [hq]; cases s <;> rfl
  have hr := fun v : World => run_float_arith (P := Tryf.prog) v .quo 23 .f32 1065353216 b q hd
  clear h hd hq
  cases s with
  | false =>
    go_enter Tryf.func8, Tryf.ntmps8
    go_wp2
    go_ret
    exact ⟨rfl, rfl⟩
  | true =>
    go_enter Tryf.func8, Tryf.ntmps8
    go_wp2
    go_ret
    exact ⟨rfl, rfl⟩

/-- The law's sign test at a word that is no NaN: its sign bit. -/
theorem sign_f32 (s : Bool) (rung : Nat) (w : World) (hs : rung < Ieee.single.signWeight) (h : rung ≤ Ieee.single.infRung) : Calls Tryf.prog 8 #[.float .f32 (Ieee.single.word s rung)] w fun e w' => e = .returned (.bool s) ∧ w = w' := by
  by_cases h0 : rung = 0
  · subst h0
    obtain ⟨m, e, hone, hm⟩ := one_f32
    exact sign_f32_zero _ _ s w (zero_eq _ s bin_f32) (div_zero _ _ m e s bin_f32 hone hm) (zero_side _ s _ bin_f32 (inf_lt _) (Nat.le_refl _) (by decide))
  · exact sign_f32_side _ s w (zero_side _ s rung bin_f32 hs h h0)
end Go.Proofs.YtjkhjidpiaepeaaFmt
