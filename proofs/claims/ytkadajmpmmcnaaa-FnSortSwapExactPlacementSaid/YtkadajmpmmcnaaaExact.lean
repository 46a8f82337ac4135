/-
  For every list of ints xs and indices i, j within it: after Swap(i, j) position i holds the old element at j, position j the old one at i, every other position its old one, and Len is unchanged. No condition of ours. (The frame of the proof was printed by the kit's skeleton program.)
-/
import Derived.Test.YtkadajmpmmcnaaaRows
import Derived.WalkKit
import Derived.ProofKit
import Derived.OpenShut
import Derived.ShutString
import Derived.ChangeOld
import Derived.Below
import Derived.Test.YtkadajmpmmcnaaaGuards
import Derived.Handy
import Derived.LoopTactic
import Derived.Lib.Hide
import Derived.WalkSpells
import Derived.Deep.QuietTactic
import Derived.BigQuiet
import Derived.IntWalk
import Derived.Deep.OwnRows
import Derived.Deep.RegionWith
namespace Go.Proofs.Ytkadajmpmmcnaaa.fnSortSwapExactPlacement
open Go.ChangeShapes Go.WideShapes Go.ChangeAt Go.RowKit
open Go.ChangeMaps (open_string shut_string)
set_option linter.unusedVariables false

theorem own : ownKnob Try.prog.godebug = none := by kernel_rfl
theorem laidOut : laidOutB Try.prog = true := by kernel_rfl

/-- WHAT THE WALK IS TOLD OF A SLICE OF INTEGERS THAT CAME IN: it is nil; or it leads to a row of 'cap' cells, the numbers 'zs' (the first 'len' are its elements, the rest its spare room), each fitting its kind. -/
def IsRow (k : IntKind) (w : World) (a : Option Addr) (len cap : Nat) (zs : List Int) : Prop :=
  (a = none ∧ len = 0 ∧ cap = 0 ∧ zs = []) ∨
  ∃ x, a = some x ∧ len ≤ cap ∧ cap ≤ maxLen ∧ zs.length = cap ∧ (∀ i, i < zs.length → w.cell? (x.add i) = some (.int k (zs.getD i 0))) ∧ ∀ n ∈ zs, (Lit.int k n).wf = true

theorem walk (a0 : Bool) (a1 : Option Addr) (len1 cap1 : Nat) (z1 : List Int) (a2 : Int) (a3 : Int) (w : World) (w1 : IsRow .i64 w a1 len1 cap1 z1) (w2 : (Lit.int .i64 a2).wf = true) (w3 : (Lit.int .i64 a3).wf = true) :
    Calls Try.prog 4 #[.bool a0, .slice a1 len1 cap1, .int .i64 a2, .int .i64 a3] w fun e w' => e = .returned (.bool true) ∧ Below w.heap.size w w' := by
  clear w2 w3
  by_cases hA : len1 ≤ 1048576
  · by_cases hB : len1 ≤ 131072
    · have hB' : ¬ (131072 : Int) < (len1 : Int) := by omega
      by_cases hC : 0 ≤ a2 ∧ a2 < (len1 : Int)
      · by_cases hD : 0 ≤ a3 ∧ a3 < (len1 : Int)
        · obtain ⟨i0, rfl⟩ : ∃ i : Nat, a2 = (i : Int) := ⟨a2.toNat, by omega⟩
          obtain ⟨j, rfl⟩ : ∃ j : Nat, a3 = (j : Int) := ⟨a3.toNat, by omega⟩
          have hi : i0 < len1 := by omega
          have hj : j < len1 := by omega
          obtain ⟨hC0, hC1⟩ := hC
          obtain ⟨hD0, hD1⟩ := hD
          rcases w1 with ⟨rfl, rfl, rfl, rfl⟩ | ⟨x, rfl, hl, hm, hz, hcell, hwz⟩
          · omega
          · obtain ⟨b, off, rfl, hbw, hc⟩ := open_row hl hz (by omega) hcell
            clear hcell hwz hm
            have HC := Lib.hid hc
            clear hc
            have HZ := Lib.hid hz
            clear hz
            have hd : decide ((131072 : Int) < (len1 : Int)) = false := decide_eq_false hB'
            go_enter Try.func4, Try.ntmps4
            go_wp2_with (first | (go_at_call 12; refine (bytes12_yes _ _ _ _ _ _ _ hA).mono ?_; rintro e w' ⟨rfl, rfl⟩) | (go_at_call 7; refine (in_yes _ _ _ (by omega) (by omega)).mono ?_; rintro e w' ⟨rfl, rfl⟩))
            refine (clone_row b off len1 cap1 z1 _ hB HC.out hbw).mono ?_
            rintro e w1 ⟨rfl, hr1, hb1⟩
            have R1 := Lib.hid hr1
            have B1 := Lib.hid hb1
            clear hr1 hb1
            go_wp2_with fail
            refine (new_row a0 w.heap.size len1 len1 (fun i => z1.getD i 0) _ hB R1.out).mono ?_
            rintro e w2 ⟨rfl, hs2, hb2⟩
            have S2 := Lib.hid hs2
            have B2 := Lib.hid hb2
            clear hs2 hb2
            go_wp2_with fail
            refine (swap_any _ _ len1 i0 j _ _ S2.out hB hi hj).mono ?_
            rintro e w3 ⟨rfl, hs3, hg3⟩
            have S3 := Lib.hid hs3
            have G3 := Lib.hid hg3
            clear hs3 hg3
            have hlt1 := R1.out.lt
            have hsz2 := B2.out.size
            have Q : Hid (w3.rowIs w.heap.size 3 len1 (fun i => .int .i64 (z1.getD i 0))) := by
              have h2 := R1.out.of_block (B2.out.block _ hlt1)
              exact h2.of_block (G3.out.block _ h2.lt (by intro e; injection e with e; omega))
            have BB : Hid (Below w.heap.size w w3) := by
              have h2 := B1.out.trans (B2.out.mono B1.out.size)
              exact h2.grown G3.out h2.size (fun k e => by injection e with e; omega)
            clear R1 B1 S2 B2 G3 HC hlt1 hsz2
            go_wp2_with (go_at_call 13; refine (len_any _ _ len1 _ _ S3.out).mono ?_; rintro e w' ⟨rfl, rfl⟩)
            go_loopw [11] (fun i wr => ∃ m : Nat, m ≤ len1 ∧ i = .int .i64 (m : Int) ∧ wr.rowIs w.heap.size 3 len1 (fun i => .int .i64 (z1.getD i 0)) ∧ SortAt wr (w1.heap.size + 1) w1.heap.size len1 (swp (fun i => z1.getD i 0) i0 j) ∧ Below w.heap.size w wr) (fun i _ => len1 - (intOf i).toNat)
            case atStart => exact ⟨0, Nat.zero_le _, rfl, Q.out, S3.out, BB.out⟩
            case round =>
              clear Q S3 BB
              obtain ⟨m, hm, rfl, hq, hs4, hbb⟩ := hrel
              have Q := Lib.hid hq
              have S4 := Lib.hid hs4
              have BB := Lib.hid hbb
              clear hq hs4 hbb
              by_cases hlt : m < len1
              · have hm3 : (m : Int) < (len1 : Int) := by omega
                have hat : ∀ x : Int, swp (fun i => z1.getD i 0) i0 j m = x → Hid (∀ r, Calls Try.prog 11 #[.pointer (some ⟨w1.heap.size + 1, 0, none⟩), .int .i64 m] (wr.drewN r) fun e w' => e = .returned (.int .i64 x) ∧ w' = wr.drewN r) := fun x hx r => by
                  have h := at_any _ _ len1 m _ (wr.drewN r) S4.out hlt
                  rw [hx] at h
                  exact h.mono fun _ _ h => ⟨h.1, h.2.symm⟩
                by_cases e1 : m = i0
                · have t1 : ((m : Int) == (i0 : Int)) = true := by simp [e1]
                  obtain ⟨x, hx⟩ : ∃ x, z1.getD j 0 = x := ⟨_, rfl⟩
                  have H := hat x (by unfold swp; rw [if_pos e1]; exact hx)
                  have hc1 : wr.cell? ⟨w.heap.size, j, none⟩ = some (.int .i64 x) := by rw [← hx]; exact Q.out.cell hj
                  clear hat e1 hx
                  go_wp2
                  go_quiet ((go_at_call 11; exact Calls.quiet_of_same (H.out _)))
                  go_wp2
                  go_roundw
                  case rel => exact ⟨m + 1, by omega, by go_num, Q.out, S4.out, BB.out.trans ⟨rfl, rfl, rfl, Nat.le_refl _, fun _ _ => rfl⟩⟩
                  case measure => simp [intOf]; omega
                · have t1 : ((m : Int) == (i0 : Int)) = false := by simp; omega
                  by_cases e2 : m = j
                  · have t2 : ((m : Int) == (j : Int)) = true := by simp [e2]
                    obtain ⟨x, hx⟩ : ∃ x, z1.getD i0 0 = x := ⟨_, rfl⟩
                    have H := hat x (by unfold swp; rw [if_neg e1, if_pos e2]; exact hx)
                    have hc1 : wr.cell? ⟨w.heap.size, i0, none⟩ = some (.int .i64 x) := by rw [← hx]; exact Q.out.cell hi
                    clear hat e1 e2 hx
                    go_wp2
                    go_quiet ((go_at_call 11; exact Calls.quiet_of_same (H.out _)))
                    go_wp2
                    go_roundw
                    case rel => exact ⟨m + 1, by omega, by go_num, Q.out, S4.out, BB.out.trans ⟨rfl, rfl, rfl, Nat.le_refl _, fun _ _ => rfl⟩⟩
                    case measure => simp [intOf]; omega
                  · have t2 : ((m : Int) == (j : Int)) = false := by simp; omega
                    obtain ⟨x, hx⟩ : ∃ x, z1.getD m 0 = x := ⟨_, rfl⟩
                    have H := hat x (by unfold swp; rw [if_neg e1, if_neg e2]; exact hx)
                    have hc1 : wr.cell? ⟨w.heap.size, m, none⟩ = some (.int .i64 x) := by rw [← hx]; exact Q.out.cell hlt
                    clear hat e1 e2 hx
                    go_wp2
                    go_quiet ((go_at_call 11; exact Calls.quiet_of_same (H.out _)))
                    go_wp2
                    go_roundw
                    case rel => exact ⟨m + 1, by omega, by go_num, Q.out, S4.out, BB.out.trans ⟨rfl, rfl, rfl, Nat.le_refl _, fun _ _ => rfl⟩⟩
                    case measure => simp [intOf]; omega
              · obtain rfl : m = len1 := by omega
                go_wp2
                go_ret
                exact ⟨rfl, BB.out⟩
        · go_enter Try.func4, Try.ntmps4
          go_wp2_with (first | (go_at_call 12; refine (bytes12_yes _ _ _ _ _ _ _ hA).mono ?_; rintro e w' ⟨rfl, rfl⟩) | (go_at_call_of 7 a2; refine (in_yes _ _ _ hC.1 hC.2).mono ?_; rintro e w' ⟨rfl, rfl⟩) | (go_at_call_of 7 a3; refine (in_no _ _ _ hD).mono ?_; rintro e w' ⟨rfl, rfl⟩))
          go_ret
          exact ⟨rfl, Below.refl _ _⟩
      · go_enter Try.func4, Try.ntmps4
        go_wp2_with (first | (go_at_call 12; refine (bytes12_yes _ _ _ _ _ _ _ hA).mono ?_; rintro e w' ⟨rfl, rfl⟩) | (go_at_call 7; refine (in_no _ _ _ hC).mono ?_; rintro e w' ⟨rfl, rfl⟩))
        go_ret
        exact ⟨rfl, Below.refl _ _⟩
    · have hB' : (131072 : Int) < (len1 : Int) := by omega
      go_enter Try.func4, Try.ntmps4
      go_wp2_with (go_at_call 12; refine (bytes12_yes _ _ _ _ _ _ _ hA).mono ?_; rintro e w' ⟨rfl, rfl⟩)
      go_ret
      exact ⟨rfl, Below.refl _ _⟩
  · go_enter Try.func4, Try.ntmps4
    go_wp2_with (go_at_call 12; refine (bytes12_no _ _ _ _ _ _ _ hA).mono ?_; rintro e w' ⟨rfl, rfl⟩)
    go_ret
    exact ⟨rfl, Below.refl _ _⟩


set_option maxRecDepth 100000 in
theorem lifted (os : Os) (started : os.Started) (H : Type) (enc : TypeId × Value → H) :
    ReturnsInHanded {} Try.checked os 4 .any (Rows.fnSortSwapExactPlacementSpec.pre6 enc Try.prog Try.f4 Rows.fnSortSwapExactPlacementRow.domain false) (Rows.fnSortSwapExactPlacementSpec.post enc Try.prog Try.f4 false true false false) := by
  refine returnsInHanded_of_change (C := Try.checked) own started (by kernel_rfl) Try.func4
    (ChangeSpec.witness6 (enc := enc) (C := Try.checked) false ⟨#[], #[.bool false, .slice none 0 0, .int .i64 0, .int .i64 0], []⟩ 8 (by kernel_rfl) (by kernel_rfl) (by kernel_rfl) (by kernel_rfl)) ?_
  intro W base args ds gs before hval0 hW hcnd _
  have hval : ∀ (j : Nat) t v, Try.f4.params[j]? = some t → args[j]? = some v → Value.okWide Try.prog W .any base t v := hval0
  have hW' := hW
  obtain ⟨p, q, hA0, hV, rfl, hfz, hnd⟩ := hW
  have hA : DataW.TrodAll enc Try.prog W 0 (fun _ => true) true Try.f4.params.toList args.toList ds p := hA0
  rw [Try.params4] at hA hval
  obtain ⟨v0, vs0, d0, ds0, p0, q0, hargs, rfl, rfl, h0, r0⟩ := trodAll_cons hA
  obtain ⟨v1, vs1, d1, ds1, p1, q1, rfl, rfl, rfl, h1, r1⟩ := trodAll_cons r0
  obtain ⟨v2, vs2, d2, ds2, p2, q2, rfl, rfl, rfl, h2, r2⟩ := trodAll_cons r1
  obtain ⟨v3, vs3, d3, ds3, p3, q3, rfl, rfl, rfl, h3, r3⟩ := trodAll_cons r2
  obtain ⟨rfl, rfl, rfl⟩ := trodAll_nil r3
  obtain rfl : args = #[v0, v1, v2, v3] := by cases args; simp_all
  obtain ⟨rfl, rfl⟩ := trodVars_none hV
  obtain ⟨a0, rfl, rfl, rfl⟩ := open_bool Try.underlying4 (hval 0 4 v0 rfl rfl) h0
  obtain ⟨a1, len1, cap1, rfl⟩ := okWide_slice Try.underlying22 (hval 1 22 v1 rfl rfl)
  have k1 := h1
  have lt1 : ∀ x ∈ p1, x.block < W.heap.size := by obtain ⟨m, hm⟩ := k1; exact DataW.trod_lt m _ _ _ hm
  obtain ⟨z1, w1⟩ : ∃ zs, IsRow .i64 W a1 len1 cap1 zs := by
    obtain ⟨fuel, hf⟩ := h1
    rcases open_ints Try.underlying22 Try.underlying3 (by kernel_rfl) hf with ⟨hcs, _⟩ | ⟨x, l, c, zs, hcs, _, hl, hm, hz, _, hcell, hwz⟩
    · simp [Value.cells] at hcs
      obtain ⟨rfl, rfl, rfl⟩ := hcs
      exact ⟨[], .inl ⟨rfl, rfl, rfl, rfl⟩⟩
    · simp [Value.cells] at hcs
      obtain ⟨rfl, rfl, rfl⟩ := hcs
      exact ⟨zs, .inr ⟨_, rfl, hl, hm, by simpa using hz, hcell, hwz⟩⟩
  obtain ⟨a2, rfl, rfl, rfl, w2⟩ := open_int Try.underlying3 (hval 2 3 v2 rfl rfl) h2
  obtain ⟨a3, rfl, rfl, rfl, w3⟩ := open_int Try.underlying3 (hval 3 3 v3 rfl rfl) h3
  clear hA0 hval0
  refine (walk a0 a1 len1 cap1 z1 a2 a3 W w1 w2 w3).mono fun e W' ⟨he, bel⟩ => ?_
  subst he
  exact ⟨_, rfl, _, _, _, [], _, [], hW', trodAll_mk1 (shut_bool Try.underlying4 _), (trodAll_cons_mk (shut_bool Try.underlying4 _) (trodAll_cons_mk (Below.trod laidOut (by kernel_rfl) (of_decide_eq_true (by kernel_rfl)) k1 bel lt1) (trodAll_cons_mk (shut_int Try.underlying3 w2) (trodAll_cons_mk (shut_int Try.underlying3 w3) trodAll_mk0)))), rfl, bel.frame _, fun h => by cases h⟩

theorem over : Rows.fnSortSwapExactPlacementRow.holds Try.pinned (OpenSpec.ofChange Rows.fnSortSwapExactPlacementSpec) :=
  OpenClaim.holds_of_wide 4 Try.f4 rfl rfl rfl rfl rfl rfl rfl ⟨rfl, rfl, rfl, rfl, rfl⟩ rfl rfl rfl rfl rfl (by kernel_rfl) Try.func4 (by kernel_rfl)
    (of_decide_eq_true (by kernel_rfl)) (by unfold Func.isWrapper; first | (rw [if_pos (by decide +kernel)]; kernel_rfl) | (rw [if_neg (by decide +kernel)]; exact ⟨rfl, rfl⟩))
    (fun os started H enc _ => lifted os started H enc)

theorem proved : Rows.FnSortSwapExactPlacementSaid := over
end Go.Proofs.Ytkadajmpmmcnaaa.fnSortSwapExactPlacement
