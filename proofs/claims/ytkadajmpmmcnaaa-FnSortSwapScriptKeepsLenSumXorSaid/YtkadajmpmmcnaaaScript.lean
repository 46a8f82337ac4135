/-
  For every list of ints xs and every script ps of index pairs, pairs out of range skipped: after each Swap Len is still the length of xs, and at the end the sorter's elements have the wrapped sum and the xor of xs. No condition of ours. (The frame of the proof was printed by the kit's skeleton program.)
-/
import Derived.Test.YtkadajmpmmcnaaaRows
import Derived.WalkKit
import Derived.ProofKit
import Derived.OpenShut
import Derived.ShutString
import Derived.ChangeOld
import Derived.Below
import Derived.Test.YtkadajmpmmcnaaaAny
import Derived.Test.YtkadajmpmmcnaaaPerm
import Derived.Handy
import Derived.LoopTactic
import Derived.Lib.Hide
import Derived.WalkSpells
import Derived.Deep.QuietTactic
import Derived.BigQuiet
import Derived.IntWalk
import Derived.Deep.OwnRows
import Derived.Deep.RegionWith
namespace Go.Proofs.Ytkadajmpmmcnaaa.fnSortSwapScriptKeepsLenSumXor
open Go.ChangeShapes Go.WideShapes Go.ChangeAt Go.RowKit
open Go.ChangeMaps (open_string shut_string)
set_option linter.unusedVariables false

theorem own : ownKnob Try.prog.godebug = none := by kernel_rfl
theorem laidOut : laidOutB Try.prog = true := by kernel_rfl

/-- WHAT THE WALK IS TOLD OF A SLICE OF INTEGERS THAT CAME IN: it is nil; or it leads to a row of 'cap' cells, the numbers 'zs' (the first 'len' are its elements, the rest its spare room), each fitting its kind. -/
def IsRow (k : IntKind) (w : World) (a : Option Addr) (len cap : Nat) (zs : List Int) : Prop :=
  (a = none ∧ len = 0 ∧ cap = 0 ∧ zs = []) ∨
  ∃ x, a = some x ∧ len ≤ cap ∧ cap ≤ maxLen ∧ zs.length = cap ∧ (∀ i, i < zs.length → w.cell? (x.add i) = some (.int k (zs.getD i 0))) ∧ ∀ n ∈ zs, (Lit.int k n).wf = true

/-- A slice of n ints of the call's own: if it holds anything, it is a row below block C. -/
def OwnB (w : World) (C : Nat) (a : Option Addr) (n : Nat) (f : Nat → Int) : Prop :=
  0 < n → ∃ b, a = some ⟨b, 0, none⟩ ∧ b < C ∧ w.rowIs b 3 n (fun i => .int .i64 (f i))
theorem OwnB.of {w : World} {B n : Nat} {a : Option Addr} {f : Nat → Int} (h : Own w B a n f) : OwnB w w.heap.size a n f := by
  intro hn
  obtain ⟨b, ha, hB, hr⟩ := h hn
  exact ⟨b, ha, hr.lt, hr⟩
theorem OwnB.kept {w w' : World} {C n : Nat} {a : Option Addr} {f : Nat → Int} (h : OwnB w C a n f) (e : ∀ b, b < C → b < w.heap.size → w'.heap[b]? = w.heap[b]?) : OwnB w' C a n f := by
  intro hn
  obtain ⟨b, ha, hB, hr⟩ := h hn
  exact ⟨b, ha, hB, hr.of_block (e b hB hr.lt)⟩
theorem OwnB.swapped {w w' : World} {C n : Nat} {a : Option Addr} {f : Nat → Int} (h : OwnB w C a n f) (g : w.grownBy w' (some C)) : OwnB w' C a n f :=
  h.kept (fun b hb hw => g.block b hw (fun e => by injection e with e; omega))

theorem walk (a0 : Bool) (a1 : Option Addr) (len1 cap1 : Nat) (z1 : List Int) (a2 : Option Addr) (len2 cap2 : Nat) (z2 : List Int) (w : World) (w1 : IsRow .i64 w a1 len1 cap1 z1) (w2 : IsRow .i64 w a2 len2 cap2 z2) :
    Calls Try.prog 5 #[.bool a0, .slice a1 len1 cap1, .slice a2 len2 cap2] w fun e w' => e = .returned (.bool true) ∧ Below w.heap.size w w' := by
  by_cases hA : len1 + len2 ≤ 1048576
  · by_cases hB : (131072 : Int) < (len1 : Int)
    · clear w1 w2
      go_enter Try.func5, Try.ntmps5
      go_wp2_with (go_at_call 14; refine (bytes14_yes _ _ _ _ _ _ _ _ hA).mono ?_; rintro e w' ⟨rfl, rfl⟩)
      go_ret
      exact ⟨rfl, Below.refl _ _⟩
    · by_cases hC : (131072 : Int) < (len2 : Int)
      · clear w1 w2
        go_enter Try.func5, Try.ntmps5
        go_wp2_with (go_at_call 14; refine (bytes14_yes _ _ _ _ _ _ _ _ hA).mono ?_; rintro e w' ⟨rfl, rfl⟩)
        go_ret
        exact ⟨rfl, Below.refl _ _⟩
      · by_cases hD : (131072 : Int) < (len1 : Int) + (len2 : Int)
        · clear w1 w2
          go_enter Try.func5, Try.ntmps5
          go_wp2_with (go_at_call 14; refine (bytes14_yes _ _ _ _ _ _ _ _ hA).mono ?_; rintro e w' ⟨rfl, rfl⟩)
          go_ret
          exact ⟨rfl, Below.refl _ _⟩
        · have l1 : len1 ≤ 131072 := by omega
          have l2 : len2 ≤ 131072 := by omega
          have d1 : decide ((131072 : Int) < (len1 : Int)) = false := decide_eq_false hB
          have d2 : decide ((131072 : Int) < (len2 : Int)) = false := decide_eq_false hC
          have d3 : decide ((131072 : Int) < (len1 : Int) + (len2 : Int)) = false := decide_eq_false hD
          have W2 : Hid (∀ v : World, Below w.heap.size w v → Calls Try.prog 8 #[.slice a2 len2 cap2] v (Cloned v len2 z2)) := by
            intro v hv
            refine clone_any a2 len2 cap2 z2 v l2 ?_
            rcases w2 with h | ⟨x, ha, hl, hm, hz, hcell, hwz⟩
            · exact .inl h
            · refine .inr ⟨x, ha, hl, hm, hz, fun i hi => ?_, hwz⟩
              have hc := hcell i hi
              rw [← hc]
              exact hv.cell (World.block_lt_of_cell? _ _ hc)
          have W1 := Lib.hid (clone_any a1 len1 cap1 z1 w l1 w1)
          clear w1 w2
          go_enter Try.func5, Try.ntmps5
          go_wp2_with (go_at_call 14; refine (bytes14_yes _ _ _ _ _ _ _ _ hA).mono ?_; rintro e w' ⟨rfl, rfl⟩)
          refine W1.out.mono ?_
          rintro e w1 ⟨b1, rfl, ho1, hb1⟩
          have O1 := Lib.hid ho1
          have B1 := Lib.hid hb1
          clear ho1 hb1 W1
          go_wp2_with fail
          refine (W2.out w1 B1.out).mono ?_
          rintro e w2 ⟨b2, rfl, ho2, hb2⟩
          have O2 := Lib.hid ho2
          have B2 := Lib.hid hb2
          clear ho2 hb2 W2
          have O1' : Hid (Own w2 w.heap.size b1 len1 (fun i => z1.getD i 0)) := O1.out.kept (fun b _ hb => B2.out.block b hb)
          go_wp2_with fail
          refine (new_any a0 b1 w.heap.size len1 len1 (fun i => z1.getD i 0) _ l1 O1'.out).mono ?_
          rintro e w3 ⟨rfl, hs3, hb3⟩
          have S3 := Lib.hid hs3
          have B3 := Lib.hid hb3
          clear hs3 hb3
          have P1 : Hid (OwnB w3 w2.heap.size b1 len1 (fun i => z1.getD i 0)) := (OwnB.of O1'.out).kept (fun b hb _ => B3.out.block b hb)
          have P2 : Hid (OwnB w3 w2.heap.size b2 len2 (fun i => z2.getD i 0)) := (OwnB.of O2.out).kept (fun b hb _ => B3.out.block b hb)
          have BB : Hid (Below w.heap.size w w3 ∧ w.heap.size ≤ w2.heap.size) := ⟨(B1.out.trans (B2.out.mono B1.out.size)).trans (B3.out.mono (Nat.le_trans B1.out.size B2.out.size)), Nat.le_trans B1.out.size B2.out.size⟩
          clear O1 O1' O2 B1 B2 B3
          go_wp2_with (go_at_call 13; refine (len_any _ _ len1 _ _ S3.out).mono ?_; rintro e w' ⟨rfl, rfl⟩)
          go_loopw [9] (fun k wr => ∃ (m : Nat) (f : Nat → Int), m ≤ len2 + 1 ∧ k = .int .i64 (m : Int) ∧ OwnB wr w2.heap.size b1 len1 (fun i => z1.getD i 0) ∧ OwnB wr w2.heap.size b2 len2 (fun i => z2.getD i 0) ∧ SortAt wr (w2.heap.size + 1) w2.heap.size len1 f ∧ Alk len1 f (fun i => z1.getD i 0) ∧ Below w.heap.size w wr) (fun k _ => len2 + 2 - (intOf k).toNat)
          case atStart => exact ⟨0, _, Nat.zero_le _, rfl, P1.out, P2.out, S3.out, Alk.refl _ _, BB.out.1⟩
          case round =>
            have hww : w.heap.size ≤ w2.heap.size := BB.out.2
            clear P1 P2 S3 BB
            obtain ⟨m, f, hm, rfl, hp1, hp2, hs, hf, hbb⟩ := hrel
            have P1 := Lib.hid hp1
            have P2 := Lib.hid hp2
            have S := Lib.hid hs
            have F := Lib.hid hf
            have BB := Lib.hid hbb
            clear hp1 hp2 hs hf hbb
            by_cases hlt : m + 1 < len2
            · obtain ⟨b, hb, hbC, hr⟩ := P2.out (by omega)
              subst hb
              obtain ⟨x, hx⟩ : ∃ x, z2.getD m 0 = x := ⟨_, rfl⟩
              obtain ⟨y, hy⟩ : ∃ y, z2.getD (m + 1) 0 = y := ⟨_, rfl⟩
              have c0 : wr.cell? ⟨b, m, none⟩ = some (.int .i64 x) := by rw [← hx]; exact hr.cell (by omega)
              have c1 : wr.cell? ⟨b, m + 1, none⟩ = some (.int .i64 y) := by rw [← hy]; exact hr.cell hlt
              have i1 : ((m : Int) + 1).toNat = m + 1 := by omega
              have i2 : (0 : Int) ≤ (m : Int) + 1 := by omega
              have i3 : (m : Int) + 1 < (len2 : Int) := by omega
              have i4 : (m : Int) < (len2 : Int) := by omega
              clear hx hy hr
              by_cases hx : 0 ≤ x ∧ x < (len1 : Int)
              · by_cases hy : 0 ≤ y ∧ y < (len1 : Int)
                · obtain ⟨i, rfl⟩ : ∃ i : Nat, x = (i : Int) := ⟨x.toNat, by omega⟩
                  obtain ⟨j, rfl⟩ : ∃ j : Nat, y = (j : Int) := ⟨y.toNat, by omega⟩
                  have hi : i < len1 := by omega
                  have hj : j < len1 := by omega
                  obtain ⟨hx0, hx1⟩ := hx
                  obtain ⟨hy0, hy1⟩ := hy
                  go_wp2_with (go_at_call 7; refine (in_yes _ _ _ (by omega) (by omega)).mono ?_; rintro e w' ⟨rfl, rfl⟩)
                  refine (swap_any _ _ len1 i j _ _ S.out l1 hi hj).mono ?_
                  rintro e w4 ⟨rfl, hs4, hg4⟩
                  have S4 := Lib.hid hs4
                  have G4 := Lib.hid hg4
                  clear hs4 hg4
                  go_wp2_with (go_at_call 13; refine (len_any _ _ len1 _ _ S4.out).mono ?_; rintro e w' ⟨rfl, rfl⟩)
                  go_roundw
                  case rel => exact ⟨m + 2, _, by omega, by go_num, P1.out.swapped G4.out, P2.out.swapped G4.out, S4.out, F.out.swp hi hj, BB.out.grown G4.out BB.out.size (fun k e => by injection e with e; omega)⟩
                  case measure => simp [intOf]; omega
                · go_wp2_with (first | (go_at_call_of 7 x; refine (in_yes _ _ _ hx.1 hx.2).mono ?_; rintro e w' ⟨rfl, rfl⟩) | (go_at_call_of 7 y; refine (in_no _ _ _ hy).mono ?_; rintro e w' ⟨rfl, rfl⟩))
                  go_roundw
                  case rel => exact ⟨m + 2, _, by omega, by go_num, P1.out, P2.out, S.out, F.out, BB.out⟩
                  case measure => simp [intOf]; omega
              · go_wp2_with (go_at_call 7; refine (in_no _ _ _ hx).mono ?_; rintro e w' ⟨rfl, rfl⟩)
                go_roundw
                case rel => exact ⟨m + 2, _, by omega, by go_num, P1.out, P2.out, S.out, F.out, BB.out⟩
                case measure => simp [intOf]; omega
            · have i3 : ¬ (m : Int) + 1 < (len2 : Int) := by omega
              clear P2
              go_wp2
              go_loop [12, 13, 14, 15, 16] (fun s0 s1 x0 x1 k => ∃ t : Nat, t ≤ len1 ∧ s0 = .int .u64 (sumTo (fun i => z1.getD i 0) t) ∧ s1 = .int .u64 (sumTo f t) ∧ x0 = .int .u64 (xorTo (fun i => z1.getD i 0) t) ∧ x1 = .int .u64 (xorTo f t) ∧ k = .int .i64 (t : Int)) (fun _ _ _ _ k => len1 - (intOf k).toNat)
              case atStart => exact ⟨0, Nat.zero_le _, rfl, rfl, rfl, rfl, rfl⟩
              case round =>
                obtain ⟨t, ht, rfl, rfl, rfl, rfl, rfl⟩ := hrel
                by_cases htl : t < len1
                · obtain ⟨b, hb, hbC, hr⟩ := P1.out (by omega)
                  subst hb
                  obtain ⟨x, hx⟩ : ∃ x, z1.getD t 0 = x := ⟨_, rfl⟩
                  obtain ⟨y, hy⟩ : ∃ y, f t = y := ⟨_, rfl⟩
                  have c0 : wr.cell? ⟨b, t, none⟩ = some (.int .i64 x) := by rw [← hx]; exact hr.cell htl
                  have hat : Hid (Calls Try.prog 11 #[.pointer (some ⟨w2.heap.size + 1, 0, none⟩), .int .i64 t] wr fun e w' => e = .returned (.int .i64 y) ∧ wr = w') := by
                    have h := at_any _ _ len1 t _ wr S.out htl
                    rw [hy] at h
                    exact h
                  have HX := Lib.hid hx
                  have HY := Lib.hid hy
                  clear hx hy hr
                  have t3 : (t : Int) < (len1 : Int) := by omega
                  go_wp2_with (go_at_call 11; refine hat.out.mono ?_; rintro e w' ⟨rfl, rfl⟩)
                  go_round
                  case rel => exact ⟨t + 1, by omega, by rw [sumTo_succ, HX.out]; rfl, by rw [sumTo_succ, HY.out]; rfl, by rw [xorTo_succ, HX.out]; rfl, by rw [xorTo_succ, HY.out]; rfl, by go_num⟩
                  case measure => simp [intOf]; omega
                · obtain rfl : t = len1 := by omega
                  have hs : sumTo (fun i => z1[i]?.getD 0) t = sumTo f t := by
                    have h := F.out.sum
                    simp only [List.getD_eq_getElem?_getD] at h
                    exact h.symm
                  have hx : xorTo (fun i => z1[i]?.getD 0) t = xorTo f t := by
                    have h := F.out.xor
                    simp only [List.getD_eq_getElem?_getD] at h
                    exact h.symm
                  go_wp2
                  go_ret
                  exact ⟨rfl, BB.out⟩
  · clear w1 w2
    go_enter Try.func5, Try.ntmps5
    go_wp2_with (go_at_call 14; refine (bytes14_no _ _ _ _ _ _ _ _ hA).mono ?_; rintro e w' ⟨rfl, rfl⟩)
    go_ret
    exact ⟨rfl, Below.refl _ _⟩


set_option maxRecDepth 100000 in
theorem lifted (os : Os) (started : os.Started) (H : Type) (enc : TypeId × Value → H) :
    ReturnsInHanded {} Try.checked os 5 .any (Rows.fnSortSwapScriptKeepsLenSumXorSpec.pre6 enc Try.prog Try.f5 Rows.fnSortSwapScriptKeepsLenSumXorRow.domain false) (Rows.fnSortSwapScriptKeepsLenSumXorSpec.post enc Try.prog Try.f5 false true false false) := by
  refine returnsInHanded_of_change (C := Try.checked) own started (by kernel_rfl) Try.func5
    (ChangeSpec.witness6 (enc := enc) (C := Try.checked) false ⟨#[], #[.bool false, .slice none 0 0, .slice none 0 0], []⟩ 8 (by kernel_rfl) (by kernel_rfl) (by kernel_rfl) (by kernel_rfl)) ?_
  intro W base args ds gs before hval0 hW hcnd _
  have hval : ∀ (j : Nat) t v, Try.f5.params[j]? = some t → args[j]? = some v → Value.okWide Try.prog W .any base t v := hval0
  have hW' := hW
  obtain ⟨p, q, hA0, hV, rfl, hfz, hnd⟩ := hW
  have hA : DataW.TrodAll enc Try.prog W 0 (fun _ => true) true Try.f5.params.toList args.toList ds p := hA0
  rw [Try.params5] at hA hval
  obtain ⟨v0, vs0, d0, ds0, p0, q0, hargs, rfl, rfl, h0, r0⟩ := trodAll_cons hA
  obtain ⟨v1, vs1, d1, ds1, p1, q1, rfl, rfl, rfl, h1, r1⟩ := trodAll_cons r0
  obtain ⟨v2, vs2, d2, ds2, p2, q2, rfl, rfl, rfl, h2, r2⟩ := trodAll_cons r1
  obtain ⟨rfl, rfl, rfl⟩ := trodAll_nil r2
  obtain rfl : args = #[v0, v1, v2] := by cases args; simp_all
  obtain ⟨rfl, rfl⟩ := trodVars_none hV
  obtain ⟨a0, rfl, rfl, rfl⟩ := open_bool Try.underlying4 (hval 0 4 v0 rfl rfl) h0
  obtain ⟨a1, len1, cap1, rfl⟩ := okWide_slice Try.underlying22 (hval 1 22 v1 rfl rfl)
  have k1 := h1
  have lt1 : ∀ x ∈ p1, x.block < W.heap.size := by obtain ⟨m, hm⟩ := k1; exact DataW.trod_lt m _ _ _ hm
  obtain ⟨z1, w1⟩ : ∃ zs, IsRow .i64 W a1 len1 cap1 zs := by
    obtain ⟨fuel, hf⟩ := h1
    rcases open_ints Try.underlying22 Try.underlying3 (by kernel_rfl) hf with ⟨hcs, _⟩ | ⟨x, l, c, zs, hcs, _, hl, hm, hz, _, hcell, hwz⟩
    · simp [Value.cells] at hcs
      obtain ⟨rfl, rfl, rfl⟩ := hcs
      exact ⟨[], .inl ⟨rfl, rfl, rfl, rfl⟩⟩
    · simp [Value.cells] at hcs
      obtain ⟨rfl, rfl, rfl⟩ := hcs
      exact ⟨zs, .inr ⟨_, rfl, hl, hm, by simpa using hz, hcell, hwz⟩⟩
  obtain ⟨a2, len2, cap2, rfl⟩ := okWide_slice Try.underlying22 (hval 2 22 v2 rfl rfl)
  have k2 := h2
  have lt2 : ∀ x ∈ p2, x.block < W.heap.size := by obtain ⟨m, hm⟩ := k2; exact DataW.trod_lt m _ _ _ hm
  obtain ⟨z2, w2⟩ : ∃ zs, IsRow .i64 W a2 len2 cap2 zs := by
    obtain ⟨fuel, hf⟩ := h2
    rcases open_ints Try.underlying22 Try.underlying3 (by kernel_rfl) hf with ⟨hcs, _⟩ | ⟨x, l, c, zs, hcs, _, hl, hm, hz, _, hcell, hwz⟩
    · simp [Value.cells] at hcs
      obtain ⟨rfl, rfl, rfl⟩ := hcs
      exact ⟨[], .inl ⟨rfl, rfl, rfl, rfl⟩⟩
    · simp [Value.cells] at hcs
      obtain ⟨rfl, rfl, rfl⟩ := hcs
      exact ⟨zs, .inr ⟨_, rfl, hl, hm, by simpa using hz, hcell, hwz⟩⟩
  clear hA0 hval0
  refine (walk a0 a1 len1 cap1 z1 a2 len2 cap2 z2 W w1 w2).mono fun e W' ⟨he, bel⟩ => ?_
  subst he
  exact ⟨_, rfl, _, _, _, [], _, [], hW', trodAll_mk1 (shut_bool Try.underlying4 _), (trodAll_cons_mk (shut_bool Try.underlying4 _) (trodAll_cons_mk (Below.trod laidOut (by kernel_rfl) (of_decide_eq_true (by kernel_rfl)) k1 bel lt1) (trodAll_cons_mk (Below.trod laidOut (by kernel_rfl) (of_decide_eq_true (by kernel_rfl)) k2 bel lt2) trodAll_mk0))), rfl, bel.frame _, fun h => by cases h⟩

theorem over : Rows.fnSortSwapScriptKeepsLenSumXorRow.holds Try.pinned (OpenSpec.ofChange Rows.fnSortSwapScriptKeepsLenSumXorSpec) :=
  OpenClaim.holds_of_wide 5 Try.f5 rfl rfl rfl rfl rfl rfl rfl ⟨rfl, rfl, rfl, rfl, rfl⟩ rfl rfl rfl rfl rfl (by kernel_rfl) Try.func5 (by kernel_rfl)
    (of_decide_eq_true (by kernel_rfl)) (by unfold Func.isWrapper; first | (rw [if_pos (by decide +kernel)]; kernel_rfl) | (rw [if_neg (by decide +kernel)]; exact ⟨rfl, rfl⟩))
    (fun os started H enc _ => lifted os started H enc)

theorem proved : Rows.FnSortSwapScriptKeepsLenSumXorSaid := over
end Go.Proofs.Ytkadajmpmmcnaaa.fnSortSwapScriptKeepsLenSumXor
