/-
  For every list of ints a and indices i, j within it: SortBy.Swap(i, j) puts a[j] at i and a[i] at j in Array and does the same in Values; every other position, both lengths and Desc stay. No condition of ours; the road passes no call of fmt that is made (the card's fmt texts are told, none is asked).
-/
import Derived.Test.YtbknalnkkiohjaaFmtCards
import Derived.WalkKit
import Derived.ProofKit
import Derived.OpenShut
import Derived.ShutString
import Derived.ChangeOld
import Derived.Below
import Derived.SevenToldRow
import Derived.Stop.JoinedTold
import Derived.Test.YtbknalnkkiohjaaFmtSwapb
import Derived.Handy
namespace Go.Proofs.YtbknalnkkiohjaaFmt.fnSortBySwapExchangesTwo
open Go.ChangeShapes Go.WideShapes Go.ChangeAt Go.RowKit
set_option linter.unusedVariables false

theorem own : ownKnob Tryf.prog.godebug = none := by kernel_rfl
theorem laidOut : laidOutB Tryf.pinned.checked.prog = true := by kernel_rfl
theorem stops : Tryf.pinned.checked.prog.stops = ["fmt.Sprintf"] := by kernel_rfl
theorem stopKnobs : Tryf.pinned.checked.prog.stopKnobs = [] := by kernel_rfl
theorem quiet (os : Os) : Stop.quiet Tryf.pinned.checked.prog os := by
  intro k hk
  rw [stopKnobs] at hk
  cases hk

/-- What is told of a slice of ints that came in. -/
def IsRow (k : IntKind) (w : World) (a : Option Addr) (len cap : Nat) (zs : List Int) : Prop :=
  (a = none ∧ len = 0 ∧ cap = 0 ∧ zs = []) ∨
  ∃ x, a = some x ∧ len ≤ cap ∧ cap ≤ maxLen ∧ zs.length = cap ∧ (∀ i, i < zs.length → w.cell? (x.add i) = some (.int k (zs.getD i 0))) ∧ ∀ n ∈ zs, (Lit.int k n).wf = true

theorem by_made {w : World} {q1 q2 n : Nat} {f g : Nat → Int} (d : Value) (h1 : w.rowIs q1 20 n (fun i => .iface 3 (.int .i64 (f i)))) (h2 : w.rowIs q2 20 n (fun i => .iface 3 (.int .i64 (g i)))) (hq : q1 ≠ q2) :
    ByAt (w.alloc (.cells #[d, .slice (some ⟨q1, 0, none⟩) n n, .slice (some ⟨q2, 0, none⟩) n n] 29)) w.heap.size q1 q2 n f g :=
  ⟨by simp, by simp, by have := h1.lt; omega, by have := h2.lt; omega, hq, h1.alloc _, h2.alloc _⟩

set_option maxRecDepth 100000 in
theorem walk (a0 : Bool) (a1 : Option Addr) (len1 cap1 : Nat) (z1 : List Int) (a2 : Int) (a3 : Int) (w : World) (w1 : IsRow .i64 w a1 len1 cap1 z1) (w2 : (Lit.int .i64 a2).wf = true) (w3 : (Lit.int .i64 a3).wf = true) :
    Calls Tryf.prog 3 #[.bool a0, .slice a1 len1 cap1, .int .i64 a2, .int .i64 a3] w fun e w' => e = .returned (.bool true) ∧ Below w.heap.size w w' := by
  clear w2 w3
  have hcap : a1 = none → cap1 = 0 := by
    rcases w1 with ⟨_, _, h, _⟩ | ⟨x, h, _⟩
    · exact fun _ => h
    · intro e; rw [e] at h; cases h
  have hcame := came_of w1
  clear w1
  by_cases hA : len1 ≤ 1048576
  · by_cases hB : (65536 : Int) < (len1 : Int)
    · clear hcame hcap
      go_enter Tryf.func3, Tryf.ntmps3
      go_wp2_with (go_at_call 5; refine (bytes5_yes _ _ _ _ _ _ _ hA).mono ?_; rintro e w' ⟨rfl, rfl⟩)
      go_ret
      exact ⟨rfl, Below.refl _ _⟩
    · have hle : len1 ≤ 65536 := by omega
      by_cases c1 : a2 < 0
      · clear hcame hcap
        go_enter Tryf.func3, Tryf.ntmps3
        go_wp2_with (go_at_call 5; refine (bytes5_yes _ _ _ _ _ _ _ hA).mono ?_; rintro e w' ⟨rfl, rfl⟩)
        go_ret
        exact ⟨rfl, Below.refl _ _⟩
      · by_cases c2 : (len1 : Int) ≤ a2
        · clear hcame hcap
          go_enter Tryf.func3, Tryf.ntmps3
          go_wp2_with (go_at_call 5; refine (bytes5_yes _ _ _ _ _ _ _ hA).mono ?_; rintro e w' ⟨rfl, rfl⟩)
          go_ret
          exact ⟨rfl, Below.refl _ _⟩
        · by_cases c3 : a3 < 0
          · clear hcame hcap
            go_enter Tryf.func3, Tryf.ntmps3
            go_wp2_with (go_at_call 5; refine (bytes5_yes _ _ _ _ _ _ _ hA).mono ?_; rintro e w' ⟨rfl, rfl⟩)
            go_ret
            exact ⟨rfl, Below.refl _ _⟩
          · by_cases c4 : (len1 : Int) ≤ a3
            · clear hcame hcap
              go_enter Tryf.func3, Tryf.ntmps3
              go_wp2_with (go_at_call 5; refine (bytes5_yes _ _ _ _ _ _ _ hA).mono ?_; rintro e w' ⟨rfl, rfl⟩)
              go_ret
              exact ⟨rfl, Below.refl _ _⟩
            · obtain ⟨i0, rfl⟩ : ∃ i : Nat, a2 = (i : Int) := ⟨a2.toNat, by omega⟩
              obtain ⟨j0, rfl⟩ : ∃ j : Nat, a3 = (j : Int) := ⟨a3.toNat, by omega⟩
              have hi : i0 < len1 := by omega
              have hj : j0 < len1 := by omega
              have hpos : 0 < len1 := by omega
              have hbox := Lib.hid (box_any a1 len1 cap1 _ w hle hcap hcame)
              obtain ⟨b, off, rfl, hbw, hc⟩ := hcame hpos
              have HC := Lib.hid hc
              clear hc hcap
              have d0 : decide ((65536 : Int) < (len1 : Int)) = false := decide_eq_false hB
              have d2 : decide ((len1 : Int) ≤ (i0 : Int)) = false := decide_eq_false c2
              have d4 : decide ((len1 : Int) ≤ (j0 : Int)) = false := decide_eq_false c4
              have d1 : decide ((i0 : Int) < 0) = false := decide_eq_false c1
              have d3 : decide ((j0 : Int) < 0) = false := decide_eq_false c3
              go_enter Tryf.func3, Tryf.ntmps3
              go_wp2_with (go_at_call 5; refine (bytes5_yes _ _ _ _ _ _ _ hA).mono ?_; rintro e w' ⟨rfl, rfl⟩)
              refine hbox.out.mono ?_
              rintro e w1 ⟨ab, rfl, hbx, hb1⟩
              obtain ⟨hab, hr1⟩ := hbx hpos
              subst hab
              have R1 := Lib.hid hr1
              have B1 := Lib.hid hb1
              clear hr1 hb1 hbx hbox
              go_wp2_with fail
              refine (idx_any len1 _ hle).mono ?_
              rintro e w2 ⟨rfl, hr2, hb2⟩
              have R2 := Lib.hid hr2
              have B2 := Lib.hid hb2
              clear hr2 hb2
              go_wp2_with fail
              have hlt1 := R1.out.lt
              have Y := Lib.hid (by_made (w := w2) (.bool a0) (R1.out.of_block (B2.out.block _ hlt1)) R2.out (by omega))
              have BB : Hid (Below w.heap.size w (w2.alloc (.cells #[.bool a0, .slice (some ⟨w.heap.size, 0, none⟩) len1 len1, .slice (some ⟨w1.heap.size, 0, none⟩) len1 len1] 29))) := by
                have h := B1.out.trans (B2.out.mono B1.out.size)
                exact h.alloc h.size _
              have D : Hid ((w2.alloc (.cells #[.bool a0, .slice (some ⟨w.heap.size, 0, none⟩) len1 len1, .slice (some ⟨w1.heap.size, 0, none⟩) len1 len1] 29)).cell? ⟨w2.heap.size, 0, none⟩ = some (.bool a0)) := by show _ = _; simp
              have hsz : w.heap.size ≤ w1.heap.size := B1.out.size
              clear R1 R2 B1 B2
              generalize w2.alloc (.cells #[.bool a0, .slice (some ⟨w.heap.size, 0, none⟩) len1 len1, .slice (some ⟨w1.heap.size, 0, none⟩) len1 len1] 29) = w3 at Y BB D ⊢
              refine (swap_any _ _ _ len1 i0 j0 _ _ _ Y.out hle hi hj).mono ?_
              rintro e w4 ⟨rfl, hy4, hk4⟩
              have B4 := Lib.hid (hk4.below BB.out (Nat.le_refl _) hsz)
              have hd : w4.cell? ⟨w2.heap.size, 0, none⟩ = some (.bool a0) := (World.cell?_of_block (hk4.block _ hy4.p1 hy4.p2)).trans D.out
              have ha := hy4.arr
              have hv := hy4.vals
              have Y4 := Lib.hid hy4
              clear hy4 hk4 Y BB D
              go_wp2
              clear hd ha hv
              go_loopw [11] (fun k wr => ∃ m : Nat, m ≤ len1 ∧ k = .int .i64 (m : Int) ∧ ByAt wr w2.heap.size w.heap.size w1.heap.size len1 (swp (fun i => z1.getD i 0) i0 j0) (swp (fun i => (i : Int)) i0 j0) ∧ Below w.heap.size w wr) (fun k _ => len1 - (intOf k).toNat)
              case atStart => exact ⟨0, Nat.zero_le _, rfl, Y4.out, B4.out⟩
              case round =>
                clear Y4 B4
                obtain ⟨m, hm, rfl, hy, hbb⟩ := hrel
                have Y := Lib.hid hy
                have BB := Lib.hid hbb
                clear hy hbb
                by_cases hlt : m < len1
                · have hm3 : (m : Int) < (len1 : Int) := by omega
                  have hi3 : (i0 : Int) < (len1 : Int) := by omega
                  have hj3 : (j0 : Int) < (len1 : Int) := by omega
                  have ha := Y.out.arr
                  have hv := Y.out.vals
                  by_cases e1 : m = i0
                  · have t1 : ((m : Int) == (i0 : Int)) = true := by simp [e1]
                    have E1 : swp (fun i => z1.getD i 0) i0 j0 m = z1.getD j0 0 := by unfold swp; rw [if_pos e1]
                    have E2 : swp (fun i => (i : Int)) i0 j0 m = (j0 : Int) := by unfold swp; rw [if_pos e1]
                    clear e1
                    obtain ⟨x, hx⟩ : ∃ x, z1.getD j0 0 = x := ⟨_, rfl⟩
                    have q1c : wr.cell? ⟨w.heap.size, m, none⟩ = some (.iface 3 (.int .i64 x)) := by
                      have h := Y.out.r1.cell hlt
                      rw [E1, hx] at h
                      exact h
                    have q2c : wr.cell? ⟨w1.heap.size, m, none⟩ = some (.iface 3 (.int .i64 (j0 : Int))) := by
                      have h := Y.out.r2.cell hlt
                      rw [E2] at h
                      exact h
                    have xc : wr.cell? ⟨b, off + j0, none⟩ = some (.int .i64 x) := (BB.out.cell (p := ⟨b, off + j0, none⟩) hbw).trans ((HC.out j0 hj).trans (by rw [hx]))
                    clear hx E1 E2
                    go_wp2
                    go_quiet ((go_at_call 9; exact Calls.quiet_of_same (toInt_int _ _)))
                    go_wp2_with (go_at_call 9; refine (toInt_int _ _).mono ?_; rintro e w' ⟨rfl, rfl⟩)
                    go_roundw
                    case rel => exact ⟨m + 1, by omega, by go_num, ⟨Y.out.arr, Y.out.vals, Y.out.p1, Y.out.p2, Y.out.q12, Y.out.r1, Y.out.r2⟩, BB.out.trans ⟨rfl, rfl, rfl, Nat.le_refl _, fun _ _ => rfl⟩⟩
                    case measure => simp [intOf]; omega
                  · have t1 : ((m : Int) == (i0 : Int)) = false := by simp; omega
                    by_cases e2 : m = j0
                    · have t2 : ((m : Int) == (j0 : Int)) = true := by simp [e2]
                      have E1 : swp (fun i => z1.getD i 0) i0 j0 m = z1.getD i0 0 := by unfold swp; rw [if_neg e1, if_pos e2]
                      have E2 : swp (fun i => (i : Int)) i0 j0 m = (i0 : Int) := by unfold swp; rw [if_neg e1, if_pos e2]
                      clear e1 e2
                      obtain ⟨x, hx⟩ : ∃ x, z1.getD i0 0 = x := ⟨_, rfl⟩
                      have q1c : wr.cell? ⟨w.heap.size, m, none⟩ = some (.iface 3 (.int .i64 x)) := by
                        have h := Y.out.r1.cell hlt
                        rw [E1, hx] at h
                        exact h
                      have q2c : wr.cell? ⟨w1.heap.size, m, none⟩ = some (.iface 3 (.int .i64 (i0 : Int))) := by
                        have h := Y.out.r2.cell hlt
                        rw [E2] at h
                        exact h
                      have xc : wr.cell? ⟨b, off + i0, none⟩ = some (.int .i64 x) := (BB.out.cell (p := ⟨b, off + i0, none⟩) hbw).trans ((HC.out i0 hi).trans (by rw [hx]))
                      clear hx E1 E2
                      go_wp2
                      go_quiet ((go_at_call 9; exact Calls.quiet_of_same (toInt_int _ _)))
                      go_wp2_with (go_at_call 9; refine (toInt_int _ _).mono ?_; rintro e w' ⟨rfl, rfl⟩)
                      go_roundw
                      case rel => exact ⟨m + 1, by omega, by go_num, ⟨Y.out.arr, Y.out.vals, Y.out.p1, Y.out.p2, Y.out.q12, Y.out.r1, Y.out.r2⟩, BB.out.trans ⟨rfl, rfl, rfl, Nat.le_refl _, fun _ _ => rfl⟩⟩
                      case measure => simp [intOf]; omega
                    · have t2 : ((m : Int) == (j0 : Int)) = false := by simp; omega
                      have E1 : swp (fun i => z1.getD i 0) i0 j0 m = z1.getD m 0 := by unfold swp; rw [if_neg e1, if_neg e2]
                      have E2 : swp (fun i => (i : Int)) i0 j0 m = (m : Int) := by unfold swp; rw [if_neg e1, if_neg e2]
                      clear e1 e2
                      obtain ⟨x, hx⟩ : ∃ x, z1.getD m 0 = x := ⟨_, rfl⟩
                      have q1c : wr.cell? ⟨w.heap.size, m, none⟩ = some (.iface 3 (.int .i64 x)) := by
                        have h := Y.out.r1.cell hlt
                        rw [E1, hx] at h
                        exact h
                      have q2c : wr.cell? ⟨w1.heap.size, m, none⟩ = some (.iface 3 (.int .i64 (m : Int))) := by
                        have h := Y.out.r2.cell hlt
                        rw [E2] at h
                        exact h
                      have xc : wr.cell? ⟨b, off + m, none⟩ = some (.int .i64 x) := (BB.out.cell (p := ⟨b, off + m, none⟩) hbw).trans ((HC.out m hlt).trans (by rw [hx]))
                      clear hx E1 E2
                      go_wp2
                      go_quiet ((go_at_call 9; exact Calls.quiet_of_same (toInt_int _ _)))
                      go_wp2_with (go_at_call 9; refine (toInt_int _ _).mono ?_; rintro e w' ⟨rfl, rfl⟩)
                      go_roundw
                      case rel => exact ⟨m + 1, by omega, by go_num, ⟨Y.out.arr, Y.out.vals, Y.out.p1, Y.out.p2, Y.out.q12, Y.out.r1, Y.out.r2⟩, BB.out.trans ⟨rfl, rfl, rfl, Nat.le_refl _, fun _ _ => rfl⟩⟩
                      case measure => simp [intOf]; omega
                · obtain rfl : m = len1 := by omega
                  go_wp2
                  go_ret
                  exact ⟨rfl, BB.out⟩
  · clear hcame hcap
    go_enter Tryf.func3, Tryf.ntmps3
    go_wp2_with (go_at_call 5; refine (bytes5_no _ _ _ _ _ _ _ hA).mono ?_; rintro e w' ⟨rfl, rfl⟩)
    go_ret
    exact ⟨rfl, Below.refl _ _⟩

set_option maxRecDepth 100000 in
theorem lifted (os : Os) (started : os.Started) (H : Type) (enc : TypeId × Value → H) :
    ReturnsInTold none {} Tryf.checked os 3 .any Input.okWide ((OpenSpec.ofChange Rows.fnSortBySwapExchangesTwoSpec).preRow enc Tryf.prog Tryf.f3 [] false []) (fun F => ((OpenSpec.ofChange Rows.fnSortBySwapExchangesTwoSpec).at F).post enc Tryf.prog Tryf.f3 false true false false) (aloneAtReturn Tryf.prog) nothingAlways := by
  refine returnsInTold_of_row (C := Tryf.checked) (s := OpenSpec.ofChange Rows.fnSortBySwapExchangesTwoSpec) (by kernel_rfl) own started (by kernel_rfl) Tryf.func3
    (OpenSpec.witness_stopped (enc := enc) (C := Tryf.checked) false ⟨#[], #[.bool false, .slice none 0 0, .int .i64 0, .int .i64 0], []⟩ 8 (by kernel_rfl) (by kernel_rfl) (by kernel_rfl) (by kernel_rfl)) ?_
  intro F W base args ds gs before _ hF hval0 hW _ _ hsz _ _
  have hval : ∀ (j : Nat) t v, Tryf.f3.params[j]? = some t → args[j]? = some v → Value.okWide Tryf.prog W .any base t v := hval0
  have hW' := hW
  obtain ⟨p, q, hA0, hV, rfl, hfz, hnd⟩ := hW
  have hA : DataW.TrodAll enc Tryf.prog W 0 (fun _ => true) true Tryf.f3.params.toList args.toList ds p := hA0
  rw [Tryf.params3] at hA hval
  obtain ⟨v0, vs0, d0, ds0, p0, q0, hargs, rfl, rfl, h0, r0⟩ := trodAll_cons hA
  obtain ⟨v1, vs1, d1, ds1, p1, q1, rfl, rfl, rfl, h1, r1⟩ := trodAll_cons r0
  obtain ⟨v2, vs2, d2, ds2, p2, q2, rfl, rfl, rfl, h2, r2⟩ := trodAll_cons r1
  obtain ⟨v3, vs3, d3, ds3, p3, q3, rfl, rfl, rfl, h3, r3⟩ := trodAll_cons r2
  obtain ⟨rfl, rfl, rfl⟩ := trodAll_nil r3
  obtain rfl : args = #[v0, v1, v2, v3] := by cases args; simp_all
  obtain ⟨rfl, rfl⟩ := trodVars_none hV
  obtain ⟨a0, rfl, rfl, rfl⟩ := open_bool Tryf.underlying4 (hval 0 4 v0 rfl rfl) h0
  obtain ⟨a1, len1, cap1, rfl⟩ := okWide_slice Tryf.underlying22 (hval 1 22 v1 rfl rfl)
  have k1 := h1
  have lt1 : ∀ x ∈ p1, x.block < W.heap.size := by obtain ⟨m, hm⟩ := k1; exact DataW.trod_lt m _ _ _ hm
  obtain ⟨z1, w1⟩ : ∃ zs, IsRow .i64 W a1 len1 cap1 zs := by
    obtain ⟨fuel, hf⟩ := h1
    rcases open_ints Tryf.underlying22 Tryf.underlying3 (by kernel_rfl) hf with ⟨hcs, _⟩ | ⟨x, l, c, zs, hcs, _, hl, hm, hz, _, hcell, hwz⟩
    · simp [Value.cells] at hcs
      obtain ⟨rfl, rfl, rfl⟩ := hcs
      exact ⟨[], .inl ⟨rfl, rfl, rfl, rfl⟩⟩
    · simp [Value.cells] at hcs
      obtain ⟨rfl, rfl, rfl⟩ := hcs
      exact ⟨zs, .inr ⟨_, rfl, hl, hm, by simpa using hz, hcell, hwz⟩⟩
  obtain ⟨a2, rfl, rfl, rfl, w2⟩ := open_int Tryf.underlying3 (hval 2 3 v2 rfl rfl) h2
  obtain ⟨a3, rfl, rfl, rfl, w3⟩ := open_int Tryf.underlying3 (hval 3 3 v3 rfl rfl) h3
  clear hA0 hval0
  refine (walk a0 a1 len1 cap1 z1 a2 a3 W w1 w2 w3).mono fun e W' ⟨he, bel⟩ => ?_
  subst he
  exact ⟨_, rfl, _, _, _, [], _, [], hW', trodAll_mk1 (shut_bool Tryf.underlying4 _), (trodAll_cons_mk (shut_bool Tryf.underlying4 _) (trodAll_cons_mk (Below.trod laidOut (by kernel_rfl) (of_decide_eq_true (by kernel_rfl)) k1 bel lt1) (trodAll_cons_mk (shut_int Tryf.underlying3 w2) (trodAll_cons_mk (shut_int Tryf.underlying3 w3) trodAll_mk0)))), rfl, bel.frame _, fun h => by cases h⟩

theorem proved : Rows.FnSortBySwapExchangesTwoToldSaid :=
  Claim7.holds_of_told_any 3 Tryf.f3 "fmt.Sprintf" [] [] _ _ _ (by kernel_rfl) rfl rfl rfl laidOut (by kernel_rfl) rfl ⟨rfl, rfl, rfl, rfl, rfl, rfl, rfl⟩ rfl rfl (by kernel_rfl) (by kernel_rfl) Tryf.func3 (by kernel_rfl)
    (of_decide_eq_true (by kernel_rfl)) (by unfold Func.isWrapper; first | (rw [if_pos (by decide +kernel)]; kernel_rfl) | (rw [if_neg (by decide +kernel)]; exact ⟨rfl, rfl⟩)) stops.symm rfl stopKnobs.symm (by kernel_rfl)
    (by kernel_rfl) (by kernel_rfl) (by kernel_rfl) (by kernel_rfl) (by kernel_rfl) (by kernel_rfl) (by kernel_rfl) (by kernel_rfl) (by kernel_rfl) rfl (by kernel_rfl) rfl rfl
    rfl rfl
    rfl (by kernel_rfl) (by kernel_rfl) (by kernel_rfl) (by decide) (by kernel_rfl)
    (OpenClaim.moreEntering_of (by kernel_rfl) (by kernel_rfl) (by kernel_rfl) (by kernel_rfl) (by kernel_rfl) (by kernel_rfl) (by kernel_rfl) (by kernel_rfl) (by kernel_rfl) (by kernel_rfl))
    ⟨_, WideRow.started_initial, quiet _⟩
    (fun os started _ H enc _ => lifted os started H enc)
end Go.Proofs.YtbknalnkkiohjaaFmt.fnSortBySwapExchangesTwo
