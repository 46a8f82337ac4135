/-
  Negate and its thin converters by contracts, at each integer type: the result bears the same type and is the wrapped negation. (Printed by a small program of ours.)
-/
import Derived.Test.YtjkhjidpiaepeaaFmtProg
import Derived.Handy
import Derived.WalkKit
import Derived.WalkLawsBesides
import Derived.WalkSpells
namespace Go.Proofs.YtjkhjidpiaepeaaFmt
open Go.RowKit
set_option linter.unusedVariables false

theorem is23 (v : Value) (w : World) : (Instr.typeAssert (.iface 23 v) 20 23 true).run Tryf.prog w = .ok (.tuple #[v, .bool true]) w := by kernel_rfl
theorem to23 (v : Value) (w : World) : (Instr.typeAssert (.iface 23 v) 20 23 false).run Tryf.prog w = .ok v w := by kernel_rfl
theorem no22_23 (v : Value) (w : World) : (Instr.typeAssert (.iface 22 v) 20 23 true).run Tryf.prog w = .ok (.tuple #[.float .f32 0, .bool false]) w := by kernel_rfl
theorem is22 (v : Value) (w : World) : (Instr.typeAssert (.iface 22 v) 20 22 true).run Tryf.prog w = .ok (.tuple #[v, .bool true]) w := by kernel_rfl
theorem to22 (v : Value) (w : World) : (Instr.typeAssert (.iface 22 v) 20 22 false).run Tryf.prog w = .ok v w := by kernel_rfl
theorem no3_23 (v : Value) (w : World) : (Instr.typeAssert (.iface 3 v) 20 23 true).run Tryf.prog w = .ok (.tuple #[.float .f32 0, .bool false]) w := by kernel_rfl
theorem no3_22 (v : Value) (w : World) : (Instr.typeAssert (.iface 3 v) 20 22 true).run Tryf.prog w = .ok (.tuple #[.float .f64 0, .bool false]) w := by kernel_rfl
theorem is3 (v : Value) (w : World) : (Instr.typeAssert (.iface 3 v) 20 3 true).run Tryf.prog w = .ok (.tuple #[v, .bool true]) w := by kernel_rfl
theorem to3 (v : Value) (w : World) : (Instr.typeAssert (.iface 3 v) 20 3 false).run Tryf.prog w = .ok v w := by kernel_rfl
theorem no29_23 (v : Value) (w : World) : (Instr.typeAssert (.iface 29 v) 20 23 true).run Tryf.prog w = .ok (.tuple #[.float .f32 0, .bool false]) w := by kernel_rfl
theorem no29_22 (v : Value) (w : World) : (Instr.typeAssert (.iface 29 v) 20 22 true).run Tryf.prog w = .ok (.tuple #[.float .f64 0, .bool false]) w := by kernel_rfl
theorem no29_3 (v : Value) (w : World) : (Instr.typeAssert (.iface 29 v) 20 3 true).run Tryf.prog w = .ok (.tuple #[.int .i64 0, .bool false]) w := by kernel_rfl
theorem is29 (v : Value) (w : World) : (Instr.typeAssert (.iface 29 v) 20 29 true).run Tryf.prog w = .ok (.tuple #[v, .bool true]) w := by kernel_rfl
theorem to29 (v : Value) (w : World) : (Instr.typeAssert (.iface 29 v) 20 29 false).run Tryf.prog w = .ok v w := by kernel_rfl
theorem no30_23 (v : Value) (w : World) : (Instr.typeAssert (.iface 30 v) 20 23 true).run Tryf.prog w = .ok (.tuple #[.float .f32 0, .bool false]) w := by kernel_rfl
theorem no30_22 (v : Value) (w : World) : (Instr.typeAssert (.iface 30 v) 20 22 true).run Tryf.prog w = .ok (.tuple #[.float .f64 0, .bool false]) w := by kernel_rfl
theorem no30_3 (v : Value) (w : World) : (Instr.typeAssert (.iface 30 v) 20 3 true).run Tryf.prog w = .ok (.tuple #[.int .i64 0, .bool false]) w := by kernel_rfl
theorem no30_29 (v : Value) (w : World) : (Instr.typeAssert (.iface 30 v) 20 29 true).run Tryf.prog w = .ok (.tuple #[.int .i8 0, .bool false]) w := by kernel_rfl
theorem is30 (v : Value) (w : World) : (Instr.typeAssert (.iface 30 v) 20 30 true).run Tryf.prog w = .ok (.tuple #[v, .bool true]) w := by kernel_rfl
theorem to30 (v : Value) (w : World) : (Instr.typeAssert (.iface 30 v) 20 30 false).run Tryf.prog w = .ok v w := by kernel_rfl
theorem no21_23 (v : Value) (w : World) : (Instr.typeAssert (.iface 21 v) 20 23 true).run Tryf.prog w = .ok (.tuple #[.float .f32 0, .bool false]) w := by kernel_rfl
theorem no21_22 (v : Value) (w : World) : (Instr.typeAssert (.iface 21 v) 20 22 true).run Tryf.prog w = .ok (.tuple #[.float .f64 0, .bool false]) w := by kernel_rfl
theorem no21_3 (v : Value) (w : World) : (Instr.typeAssert (.iface 21 v) 20 3 true).run Tryf.prog w = .ok (.tuple #[.int .i64 0, .bool false]) w := by kernel_rfl
theorem no21_29 (v : Value) (w : World) : (Instr.typeAssert (.iface 21 v) 20 29 true).run Tryf.prog w = .ok (.tuple #[.int .i8 0, .bool false]) w := by kernel_rfl
theorem no21_30 (v : Value) (w : World) : (Instr.typeAssert (.iface 21 v) 20 30 true).run Tryf.prog w = .ok (.tuple #[.int .i16 0, .bool false]) w := by kernel_rfl
theorem is21 (v : Value) (w : World) : (Instr.typeAssert (.iface 21 v) 20 21 true).run Tryf.prog w = .ok (.tuple #[v, .bool true]) w := by kernel_rfl
theorem to21 (v : Value) (w : World) : (Instr.typeAssert (.iface 21 v) 20 21 false).run Tryf.prog w = .ok v w := by kernel_rfl
theorem no2_23 (v : Value) (w : World) : (Instr.typeAssert (.iface 2 v) 20 23 true).run Tryf.prog w = .ok (.tuple #[.float .f32 0, .bool false]) w := by kernel_rfl
theorem no2_22 (v : Value) (w : World) : (Instr.typeAssert (.iface 2 v) 20 22 true).run Tryf.prog w = .ok (.tuple #[.float .f64 0, .bool false]) w := by kernel_rfl
theorem no2_3 (v : Value) (w : World) : (Instr.typeAssert (.iface 2 v) 20 3 true).run Tryf.prog w = .ok (.tuple #[.int .i64 0, .bool false]) w := by kernel_rfl
theorem no2_29 (v : Value) (w : World) : (Instr.typeAssert (.iface 2 v) 20 29 true).run Tryf.prog w = .ok (.tuple #[.int .i8 0, .bool false]) w := by kernel_rfl
theorem no2_30 (v : Value) (w : World) : (Instr.typeAssert (.iface 2 v) 20 30 true).run Tryf.prog w = .ok (.tuple #[.int .i16 0, .bool false]) w := by kernel_rfl
theorem no2_21 (v : Value) (w : World) : (Instr.typeAssert (.iface 2 v) 20 21 true).run Tryf.prog w = .ok (.tuple #[.int .i32 0, .bool false]) w := by kernel_rfl
theorem is2 (v : Value) (w : World) : (Instr.typeAssert (.iface 2 v) 20 2 true).run Tryf.prog w = .ok (.tuple #[v, .bool true]) w := by kernel_rfl
theorem to2 (v : Value) (w : World) : (Instr.typeAssert (.iface 2 v) 20 2 false).run Tryf.prog w = .ok v w := by kernel_rfl
theorem no31_23 (v : Value) (w : World) : (Instr.typeAssert (.iface 31 v) 20 23 true).run Tryf.prog w = .ok (.tuple #[.float .f32 0, .bool false]) w := by kernel_rfl
theorem no31_22 (v : Value) (w : World) : (Instr.typeAssert (.iface 31 v) 20 22 true).run Tryf.prog w = .ok (.tuple #[.float .f64 0, .bool false]) w := by kernel_rfl
theorem no31_3 (v : Value) (w : World) : (Instr.typeAssert (.iface 31 v) 20 3 true).run Tryf.prog w = .ok (.tuple #[.int .i64 0, .bool false]) w := by kernel_rfl
theorem no31_29 (v : Value) (w : World) : (Instr.typeAssert (.iface 31 v) 20 29 true).run Tryf.prog w = .ok (.tuple #[.int .i8 0, .bool false]) w := by kernel_rfl
theorem no31_30 (v : Value) (w : World) : (Instr.typeAssert (.iface 31 v) 20 30 true).run Tryf.prog w = .ok (.tuple #[.int .i16 0, .bool false]) w := by kernel_rfl
theorem no31_21 (v : Value) (w : World) : (Instr.typeAssert (.iface 31 v) 20 21 true).run Tryf.prog w = .ok (.tuple #[.int .i32 0, .bool false]) w := by kernel_rfl
theorem no31_2 (v : Value) (w : World) : (Instr.typeAssert (.iface 31 v) 20 2 true).run Tryf.prog w = .ok (.tuple #[.int .i64 0, .bool false]) w := by kernel_rfl
theorem is31 (v : Value) (w : World) : (Instr.typeAssert (.iface 31 v) 20 31 true).run Tryf.prog w = .ok (.tuple #[v, .bool true]) w := by kernel_rfl
theorem to31 (v : Value) (w : World) : (Instr.typeAssert (.iface 31 v) 20 31 false).run Tryf.prog w = .ok v w := by kernel_rfl
theorem no5_23 (v : Value) (w : World) : (Instr.typeAssert (.iface 5 v) 20 23 true).run Tryf.prog w = .ok (.tuple #[.float .f32 0, .bool false]) w := by kernel_rfl
theorem no5_22 (v : Value) (w : World) : (Instr.typeAssert (.iface 5 v) 20 22 true).run Tryf.prog w = .ok (.tuple #[.float .f64 0, .bool false]) w := by kernel_rfl
theorem no5_3 (v : Value) (w : World) : (Instr.typeAssert (.iface 5 v) 20 3 true).run Tryf.prog w = .ok (.tuple #[.int .i64 0, .bool false]) w := by kernel_rfl
theorem no5_29 (v : Value) (w : World) : (Instr.typeAssert (.iface 5 v) 20 29 true).run Tryf.prog w = .ok (.tuple #[.int .i8 0, .bool false]) w := by kernel_rfl
theorem no5_30 (v : Value) (w : World) : (Instr.typeAssert (.iface 5 v) 20 30 true).run Tryf.prog w = .ok (.tuple #[.int .i16 0, .bool false]) w := by kernel_rfl
theorem no5_21 (v : Value) (w : World) : (Instr.typeAssert (.iface 5 v) 20 21 true).run Tryf.prog w = .ok (.tuple #[.int .i32 0, .bool false]) w := by kernel_rfl
theorem no5_2 (v : Value) (w : World) : (Instr.typeAssert (.iface 5 v) 20 2 true).run Tryf.prog w = .ok (.tuple #[.int .i64 0, .bool false]) w := by kernel_rfl
theorem no5_31 (v : Value) (w : World) : (Instr.typeAssert (.iface 5 v) 20 31 true).run Tryf.prog w = .ok (.tuple #[.int .u64 0, .bool false]) w := by kernel_rfl
theorem is5 (v : Value) (w : World) : (Instr.typeAssert (.iface 5 v) 20 5 true).run Tryf.prog w = .ok (.tuple #[v, .bool true]) w := by kernel_rfl
theorem to5 (v : Value) (w : World) : (Instr.typeAssert (.iface 5 v) 20 5 false).run Tryf.prog w = .ok v w := by kernel_rfl
theorem no32_23 (v : Value) (w : World) : (Instr.typeAssert (.iface 32 v) 20 23 true).run Tryf.prog w = .ok (.tuple #[.float .f32 0, .bool false]) w := by kernel_rfl
theorem no32_22 (v : Value) (w : World) : (Instr.typeAssert (.iface 32 v) 20 22 true).run Tryf.prog w = .ok (.tuple #[.float .f64 0, .bool false]) w := by kernel_rfl
theorem no32_3 (v : Value) (w : World) : (Instr.typeAssert (.iface 32 v) 20 3 true).run Tryf.prog w = .ok (.tuple #[.int .i64 0, .bool false]) w := by kernel_rfl
theorem no32_29 (v : Value) (w : World) : (Instr.typeAssert (.iface 32 v) 20 29 true).run Tryf.prog w = .ok (.tuple #[.int .i8 0, .bool false]) w := by kernel_rfl
theorem no32_30 (v : Value) (w : World) : (Instr.typeAssert (.iface 32 v) 20 30 true).run Tryf.prog w = .ok (.tuple #[.int .i16 0, .bool false]) w := by kernel_rfl
theorem no32_21 (v : Value) (w : World) : (Instr.typeAssert (.iface 32 v) 20 21 true).run Tryf.prog w = .ok (.tuple #[.int .i32 0, .bool false]) w := by kernel_rfl
theorem no32_2 (v : Value) (w : World) : (Instr.typeAssert (.iface 32 v) 20 2 true).run Tryf.prog w = .ok (.tuple #[.int .i64 0, .bool false]) w := by kernel_rfl
theorem no32_31 (v : Value) (w : World) : (Instr.typeAssert (.iface 32 v) 20 31 true).run Tryf.prog w = .ok (.tuple #[.int .u64 0, .bool false]) w := by kernel_rfl
theorem no32_5 (v : Value) (w : World) : (Instr.typeAssert (.iface 32 v) 20 5 true).run Tryf.prog w = .ok (.tuple #[.int .u8 0, .bool false]) w := by kernel_rfl
theorem is32 (v : Value) (w : World) : (Instr.typeAssert (.iface 32 v) 20 32 true).run Tryf.prog w = .ok (.tuple #[v, .bool true]) w := by kernel_rfl
theorem to32 (v : Value) (w : World) : (Instr.typeAssert (.iface 32 v) 20 32 false).run Tryf.prog w = .ok v w := by kernel_rfl
theorem no33_23 (v : Value) (w : World) : (Instr.typeAssert (.iface 33 v) 20 23 true).run Tryf.prog w = .ok (.tuple #[.float .f32 0, .bool false]) w := by kernel_rfl
theorem no33_22 (v : Value) (w : World) : (Instr.typeAssert (.iface 33 v) 20 22 true).run Tryf.prog w = .ok (.tuple #[.float .f64 0, .bool false]) w := by kernel_rfl
theorem no33_3 (v : Value) (w : World) : (Instr.typeAssert (.iface 33 v) 20 3 true).run Tryf.prog w = .ok (.tuple #[.int .i64 0, .bool false]) w := by kernel_rfl
theorem no33_29 (v : Value) (w : World) : (Instr.typeAssert (.iface 33 v) 20 29 true).run Tryf.prog w = .ok (.tuple #[.int .i8 0, .bool false]) w := by kernel_rfl
theorem no33_30 (v : Value) (w : World) : (Instr.typeAssert (.iface 33 v) 20 30 true).run Tryf.prog w = .ok (.tuple #[.int .i16 0, .bool false]) w := by kernel_rfl
theorem no33_21 (v : Value) (w : World) : (Instr.typeAssert (.iface 33 v) 20 21 true).run Tryf.prog w = .ok (.tuple #[.int .i32 0, .bool false]) w := by kernel_rfl
theorem no33_2 (v : Value) (w : World) : (Instr.typeAssert (.iface 33 v) 20 2 true).run Tryf.prog w = .ok (.tuple #[.int .i64 0, .bool false]) w := by kernel_rfl
theorem no33_31 (v : Value) (w : World) : (Instr.typeAssert (.iface 33 v) 20 31 true).run Tryf.prog w = .ok (.tuple #[.int .u64 0, .bool false]) w := by kernel_rfl
theorem no33_5 (v : Value) (w : World) : (Instr.typeAssert (.iface 33 v) 20 5 true).run Tryf.prog w = .ok (.tuple #[.int .u8 0, .bool false]) w := by kernel_rfl
theorem no33_32 (v : Value) (w : World) : (Instr.typeAssert (.iface 33 v) 20 32 true).run Tryf.prog w = .ok (.tuple #[.int .u16 0, .bool false]) w := by kernel_rfl
theorem is33 (v : Value) (w : World) : (Instr.typeAssert (.iface 33 v) 20 33 true).run Tryf.prog w = .ok (.tuple #[v, .bool true]) w := by kernel_rfl
theorem to33 (v : Value) (w : World) : (Instr.typeAssert (.iface 33 v) 20 33 false).run Tryf.prog w = .ok v w := by kernel_rfl
theorem no34_23 (v : Value) (w : World) : (Instr.typeAssert (.iface 34 v) 20 23 true).run Tryf.prog w = .ok (.tuple #[.float .f32 0, .bool false]) w := by kernel_rfl
theorem no34_22 (v : Value) (w : World) : (Instr.typeAssert (.iface 34 v) 20 22 true).run Tryf.prog w = .ok (.tuple #[.float .f64 0, .bool false]) w := by kernel_rfl
theorem no34_3 (v : Value) (w : World) : (Instr.typeAssert (.iface 34 v) 20 3 true).run Tryf.prog w = .ok (.tuple #[.int .i64 0, .bool false]) w := by kernel_rfl
theorem no34_29 (v : Value) (w : World) : (Instr.typeAssert (.iface 34 v) 20 29 true).run Tryf.prog w = .ok (.tuple #[.int .i8 0, .bool false]) w := by kernel_rfl
theorem no34_30 (v : Value) (w : World) : (Instr.typeAssert (.iface 34 v) 20 30 true).run Tryf.prog w = .ok (.tuple #[.int .i16 0, .bool false]) w := by kernel_rfl
theorem no34_21 (v : Value) (w : World) : (Instr.typeAssert (.iface 34 v) 20 21 true).run Tryf.prog w = .ok (.tuple #[.int .i32 0, .bool false]) w := by kernel_rfl
theorem no34_2 (v : Value) (w : World) : (Instr.typeAssert (.iface 34 v) 20 2 true).run Tryf.prog w = .ok (.tuple #[.int .i64 0, .bool false]) w := by kernel_rfl
theorem no34_31 (v : Value) (w : World) : (Instr.typeAssert (.iface 34 v) 20 31 true).run Tryf.prog w = .ok (.tuple #[.int .u64 0, .bool false]) w := by kernel_rfl
theorem no34_5 (v : Value) (w : World) : (Instr.typeAssert (.iface 34 v) 20 5 true).run Tryf.prog w = .ok (.tuple #[.int .u8 0, .bool false]) w := by kernel_rfl
theorem no34_32 (v : Value) (w : World) : (Instr.typeAssert (.iface 34 v) 20 32 true).run Tryf.prog w = .ok (.tuple #[.int .u16 0, .bool false]) w := by kernel_rfl
theorem no34_33 (v : Value) (w : World) : (Instr.typeAssert (.iface 34 v) 20 33 true).run Tryf.prog w = .ok (.tuple #[.int .u32 0, .bool false]) w := by kernel_rfl
theorem is34 (v : Value) (w : World) : (Instr.typeAssert (.iface 34 v) 20 34 true).run Tryf.prog w = .ok (.tuple #[v, .bool true]) w := by kernel_rfl
theorem to34 (v : Value) (w : World) : (Instr.typeAssert (.iface 34 v) 20 34 false).run Tryf.prog w = .ok v w := by kernel_rfl

theorem neg3 (x : Int) (w : World) : Calls Tryf.prog 19 #[.iface 3 (.int .i64 x)] w fun e w' => e = .returned (.iface 3 (.int .i64 (wrap64 (-x)))) ∧ w = w' := by
  have h0 := no3_23
  have h1 := no3_22
  have hy := is3
  go_enter Tryf.func19, Tryf.ntmps19
  go_wp2
  go_ret
  exact ⟨rfl, rfl⟩
theorem conv3 (x : Int) (w : World) : Calls Tryf.prog 9 #[.int .i64 x] w fun e w' => e = .returned (.int .i64 (wrap64 (-x))) ∧ w = w' := by
  have ht := to3
  go_enter Tryf.func9, Tryf.ntmps9
  go_wp2_with (go_at_call 19; refine (neg3 _ _).mono ?_; rintro e w' ⟨rfl, rfl⟩)
  go_ret
  exact ⟨rfl, rfl⟩

theorem neg29 (x : Int) (w : World) : Calls Tryf.prog 19 #[.iface 29 (.int .i8 x)] w fun e w' => e = .returned (.iface 29 (.int .i8 (IntKind.i8.wrap (-x)))) ∧ w = w' := by
  have h0 := no29_23
  have h1 := no29_22
  have h2 := no29_3
  have hy := is29
  go_enter Tryf.func19, Tryf.ntmps19
  go_wp2
  go_ret
  exact ⟨rfl, rfl⟩
theorem conv29 (x : Int) (w : World) : Calls Tryf.prog 10 #[.int .i8 x] w fun e w' => e = .returned (.int .i8 (IntKind.i8.wrap (-x))) ∧ w = w' := by
  have ht := to29
  go_enter Tryf.func10, Tryf.ntmps10
  go_wp2_with (go_at_call 19; refine (neg29 _ _).mono ?_; rintro e w' ⟨rfl, rfl⟩)
  go_ret
  exact ⟨rfl, rfl⟩

theorem neg30 (x : Int) (w : World) : Calls Tryf.prog 19 #[.iface 30 (.int .i16 x)] w fun e w' => e = .returned (.iface 30 (.int .i16 (IntKind.i16.wrap (-x)))) ∧ w = w' := by
  have h0 := no30_23
  have h1 := no30_22
  have h2 := no30_3
  have h3 := no30_29
  have hy := is30
  go_enter Tryf.func19, Tryf.ntmps19
  go_wp2
  go_ret
  exact ⟨rfl, rfl⟩
theorem conv30 (x : Int) (w : World) : Calls Tryf.prog 11 #[.int .i16 x] w fun e w' => e = .returned (.int .i16 (IntKind.i16.wrap (-x))) ∧ w = w' := by
  have ht := to30
  go_enter Tryf.func11, Tryf.ntmps11
  go_wp2_with (go_at_call 19; refine (neg30 _ _).mono ?_; rintro e w' ⟨rfl, rfl⟩)
  go_ret
  exact ⟨rfl, rfl⟩

theorem neg21 (x : Int) (w : World) : Calls Tryf.prog 19 #[.iface 21 (.int .i32 x)] w fun e w' => e = .returned (.iface 21 (.int .i32 (wrap32 (-x)))) ∧ w = w' := by
  have h0 := no21_23
  have h1 := no21_22
  have h2 := no21_3
  have h3 := no21_29
  have h4 := no21_30
  have hy := is21
  go_enter Tryf.func19, Tryf.ntmps19
  go_wp2
  go_ret
  exact ⟨rfl, rfl⟩
theorem conv21 (x : Int) (w : World) : Calls Tryf.prog 12 #[.int .i32 x] w fun e w' => e = .returned (.int .i32 (wrap32 (-x))) ∧ w = w' := by
  have ht := to21
  go_enter Tryf.func12, Tryf.ntmps12
  go_wp2_with (go_at_call 19; refine (neg21 _ _).mono ?_; rintro e w' ⟨rfl, rfl⟩)
  go_ret
  exact ⟨rfl, rfl⟩

theorem neg2 (x : Int) (w : World) : Calls Tryf.prog 19 #[.iface 2 (.int .i64 x)] w fun e w' => e = .returned (.iface 2 (.int .i64 (wrap64 (-x)))) ∧ w = w' := by
  have h0 := no2_23
  have h1 := no2_22
  have h2 := no2_3
  have h3 := no2_29
  have h4 := no2_30
  have h5 := no2_21
  have hy := is2
  go_enter Tryf.func19, Tryf.ntmps19
  go_wp2
  go_ret
  exact ⟨rfl, rfl⟩
theorem conv2 (x : Int) (w : World) : Calls Tryf.prog 13 #[.int .i64 x] w fun e w' => e = .returned (.int .i64 (wrap64 (-x))) ∧ w = w' := by
  have ht := to2
  go_enter Tryf.func13, Tryf.ntmps13
  go_wp2_with (go_at_call 19; refine (neg2 _ _).mono ?_; rintro e w' ⟨rfl, rfl⟩)
  go_ret
  exact ⟨rfl, rfl⟩

theorem neg31 (x : Int) (w : World) : Calls Tryf.prog 19 #[.iface 31 (.int .u64 x)] w fun e w' => e = .returned (.iface 31 (.int .u64 (IntKind.u64.wrap (-x)))) ∧ w = w' := by
  have h0 := no31_23
  have h1 := no31_22
  have h2 := no31_3
  have h3 := no31_29
  have h4 := no31_30
  have h5 := no31_21
  have h6 := no31_2
  have hy := is31
  go_enter Tryf.func19, Tryf.ntmps19
  go_wp2
  go_ret
  exact ⟨rfl, rfl⟩
theorem conv31 (x : Int) (w : World) : Calls Tryf.prog 14 #[.int .u64 x] w fun e w' => e = .returned (.int .u64 (IntKind.u64.wrap (-x))) ∧ w = w' := by
  have ht := to31
  go_enter Tryf.func14, Tryf.ntmps14
  go_wp2_with (go_at_call 19; refine (neg31 _ _).mono ?_; rintro e w' ⟨rfl, rfl⟩)
  go_ret
  exact ⟨rfl, rfl⟩

theorem neg5 (x : Int) (w : World) : Calls Tryf.prog 19 #[.iface 5 (.int .u8 x)] w fun e w' => e = .returned (.iface 5 (.int .u8 (IntKind.u8.wrap (-x)))) ∧ w = w' := by
  have h0 := no5_23
  have h1 := no5_22
  have h2 := no5_3
  have h3 := no5_29
  have h4 := no5_30
  have h5 := no5_21
  have h6 := no5_2
  have h7 := no5_31
  have hy := is5
  go_enter Tryf.func19, Tryf.ntmps19
  go_wp2
  go_ret
  exact ⟨rfl, rfl⟩
theorem conv5 (x : Int) (w : World) : Calls Tryf.prog 15 #[.int .u8 x] w fun e w' => e = .returned (.int .u8 (IntKind.u8.wrap (-x))) ∧ w = w' := by
  have ht := to5
  go_enter Tryf.func15, Tryf.ntmps15
  go_wp2_with (go_at_call 19; refine (neg5 _ _).mono ?_; rintro e w' ⟨rfl, rfl⟩)
  go_ret
  exact ⟨rfl, rfl⟩

theorem neg32 (x : Int) (w : World) : Calls Tryf.prog 19 #[.iface 32 (.int .u16 x)] w fun e w' => e = .returned (.iface 32 (.int .u16 (IntKind.u16.wrap (-x)))) ∧ w = w' := by
  have h0 := no32_23
  have h1 := no32_22
  have h2 := no32_3
  have h3 := no32_29
  have h4 := no32_30
  have h5 := no32_21
  have h6 := no32_2
  have h7 := no32_31
  have h8 := no32_5
  have hy := is32
  go_enter Tryf.func19, Tryf.ntmps19
  go_wp2
  go_ret
  exact ⟨rfl, rfl⟩
theorem conv32 (x : Int) (w : World) : Calls Tryf.prog 16 #[.int .u16 x] w fun e w' => e = .returned (.int .u16 (IntKind.u16.wrap (-x))) ∧ w = w' := by
  have ht := to32
  go_enter Tryf.func16, Tryf.ntmps16
  go_wp2_with (go_at_call 19; refine (neg32 _ _).mono ?_; rintro e w' ⟨rfl, rfl⟩)
  go_ret
  exact ⟨rfl, rfl⟩

theorem neg33 (x : Int) (w : World) : Calls Tryf.prog 19 #[.iface 33 (.int .u32 x)] w fun e w' => e = .returned (.iface 33 (.int .u32 (IntKind.u32.wrap (-x)))) ∧ w = w' := by
  have h0 := no33_23
  have h1 := no33_22
  have h2 := no33_3
  have h3 := no33_29
  have h4 := no33_30
  have h5 := no33_21
  have h6 := no33_2
  have h7 := no33_31
  have h8 := no33_5
  have h9 := no33_32
  have hy := is33
  go_enter Tryf.func19, Tryf.ntmps19
  go_wp2
  go_ret
  exact ⟨rfl, rfl⟩
theorem conv33 (x : Int) (w : World) : Calls Tryf.prog 17 #[.int .u32 x] w fun e w' => e = .returned (.int .u32 (IntKind.u32.wrap (-x))) ∧ w = w' := by
  have ht := to33
  go_enter Tryf.func17, Tryf.ntmps17
  go_wp2_with (go_at_call 19; refine (neg33 _ _).mono ?_; rintro e w' ⟨rfl, rfl⟩)
  go_ret
  exact ⟨rfl, rfl⟩

theorem neg34 (x : Int) (w : World) : Calls Tryf.prog 19 #[.iface 34 (.int .u64 x)] w fun e w' => e = .returned (.iface 34 (.int .u64 (IntKind.u64.wrap (-x)))) ∧ w = w' := by
  have h0 := no34_23
  have h1 := no34_22
  have h2 := no34_3
  have h3 := no34_29
  have h4 := no34_30
  have h5 := no34_21
  have h6 := no34_2
  have h7 := no34_31
  have h8 := no34_5
  have h9 := no34_32
  have h10 := no34_33
  have hy := is34
  go_enter Tryf.func19, Tryf.ntmps19
  go_wp2
  go_ret
  exact ⟨rfl, rfl⟩
theorem conv34 (x : Int) (w : World) : Calls Tryf.prog 18 #[.int .u64 x] w fun e w' => e = .returned (.int .u64 (IntKind.u64.wrap (-x))) ∧ w = w' := by
  have ht := to34
  go_enter Tryf.func18, Tryf.ntmps18
  go_wp2_with (go_at_call 19; refine (neg34 _ _).mono ?_; rintro e w' ⟨rfl, rfl⟩)
  go_ret
  exact ⟨rfl, rfl⟩
end Go.Proofs.YtjkhjidpiaepeaaFmt
