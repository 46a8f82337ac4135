/-
  For every list of ints a and every script of swaps (pairs out of range skipped): afterwards Values is a permutation of 0..n-1 and each Array[k] is a[Values[k]]; replaying the script backwards restores the start. No condition of ours; the road passes no call of fmt that is made (the card's fmt texts are told, none is asked).
-/
import Derived.Test.YtbknalnkkiohjaaFmtCards
import Derived.WalkKit
import Derived.ProofKit
import Derived.OpenShut
import Derived.ShutString
import Derived.ChangeOld
import Derived.Below
import Derived.SevenToldRow
import Derived.Stop.JoinedTold
import Derived.Test.YtbknalnkkiohjaaFmtState
import Derived.Handy
namespace Go.Proofs.YtbknalnkkiohjaaFmt.fnSortBySwapScriptKeepsPairs
open Go.ChangeShapes Go.WideShapes Go.ChangeAt Go.RowKit
set_option linter.unusedVariables false

theorem own : ownKnob Tryf.prog.godebug = none := by kernel_rfl
theorem laidOut : laidOutB Tryf.pinned.checked.prog = true := by kernel_rfl
theorem stops : Tryf.pinned.checked.prog.stops = ["fmt.Sprintf"] := by kernel_rfl
theorem stopKnobs : Tryf.pinned.checked.prog.stopKnobs = [] := by kernel_rfl
theorem quiet (os : Os) : Stop.quiet Tryf.pinned.checked.prog os := by
  intro k hk
  rw [stopKnobs] at hk
  cases hk

/-- What is told of a slice of ints that came in. -/
def IsRow (k : IntKind) (w : World) (a : Option Addr) (len cap : Nat) (zs : List Int) : Prop :=
  (a = none ∧ len = 0 ∧ cap = 0 ∧ zs = []) ∨
  ∃ x, a = some x ∧ len ≤ cap ∧ cap ≤ maxLen ∧ zs.length = cap ∧ (∀ i, i < zs.length → w.cell? (x.add i) = some (.int k (zs.getD i 0))) ∧ ∀ n ∈ zs, (Lit.int k n).wf = true

/-- Both lists stand at the permutation σ (said where there is anything to say). -/
def At (w : World) (p q1 q2 n : Nat) (a : Nat → Int) (σ : Nat → Nat) : Prop := 0 < n → ByAt w p q1 q2 n (fun k => a (σ k)) (fun k => (σ k : Int))

theorem at_made {w : World} {q1 q2 n : Nat} {a : Nat → Int} (d : Value) (ab : Option Addr) (h0 : 0 < n → ab = some ⟨q1, 0, none⟩ ∧ w.rowIs q1 20 n (fun i => .iface 3 (.int .i64 (a i)))) (h2 : w.rowIs q2 20 n (fun i => .iface 3 (.int .i64 (i : Int)))) (hq : 0 < n → q1 ≠ q2) :
    At (w.alloc (.cells #[d, .slice ab n n, .slice (some ⟨q2, 0, none⟩) n n] 29)) w.heap.size q1 q2 n a (fun k => k) := by
  intro hn
  obtain ⟨rfl, h1⟩ := h0 hn
  exact ⟨by simp, by simp, by have := h1.lt; omega, by have := h2.lt; omega, hq hn, h1.alloc _, h2.alloc _⟩

theorem atSwapped {w' : World} {p q1 q2 n i j : Nat} {a : Nat → Int} {σ : Nat → Nat} (h : ByAt w' p q1 q2 n (swp (fun k => a (σ k)) i j) (swp (fun k => (σ k : Int)) i j)) : At w' p q1 q2 n a (swp σ i j) := by
  intro _
  rw [swp_comp a σ i j, swp_comp (fun k : Nat => (k : Int)) σ i j] at h
  exact h

theorem byDraws {w : World} {p q1 q2 n : Nat} {f g : Nat → Int} (h : ByAt w p q1 q2 n f g) (r : Nat) : ByAt (w.drewN r) p q1 q2 n f g := ⟨h.arr, h.vals, h.p1, h.p2, h.q12, h.r1, h.r2⟩
theorem belowDraws {B : Nat} {a w : World} (h : Below B a w) (r : Nat) : Below B a (w.drewN r) := h.trans ⟨rfl, rfl, rfl, Nat.le_refl _, fun _ _ => rfl⟩
theorem byOther {w : World} {p q1 q2 n S : Nat} {f g : Nat → Int} (h : ByAt w p q1 q2 n f g) (e0 : p ≠ S) (e1 : q1 ≠ S) (e2 : q2 ≠ S) (i : Nat) (v : Value) : ByAt (w.setCell ⟨S, i, none⟩ v) p q1 q2 n f g :=
  ⟨(World.cell?_of_block (Deep.blk_setCell_other _ _ _ _ e0)).trans h.arr, (World.cell?_of_block (Deep.blk_setCell_other _ _ _ _ e0)).trans h.vals, h.p1, h.p2, h.q12, h.r1.setOther e1 v, h.r2.setOther e2 v⟩
theorem byAllocd {w : World} {p q1 q2 n : Nat} {f g : Nat → Int} (h : ByAt w p q1 q2 n f g) (o : Obj) : ByAt (w.alloc o) p q1 q2 n f g :=
  ⟨(World.cell?_of_block (Deep.blk_alloc_lt _ _ _ (World.block_lt_of_cell? _ _ h.arr))).trans h.arr, (World.cell?_of_block (Deep.blk_alloc_lt _ _ _ (World.block_lt_of_cell? _ _ h.vals))).trans h.vals, h.p1, h.p2, h.q12, h.r1.alloc o, h.r2.alloc o⟩

set_option maxHeartbeats 4000000 in
set_option maxRecDepth 100000 in
theorem walk (a0 : Option Addr) (len0 cap0 : Nat) (z0 : List Int) (a1 : Option Addr) (len1 cap1 : Nat) (z1 : List Int) (w : World) (w0 : IsRow .i64 w a0 len0 cap0 z0) (w1 : IsRow .i64 w a1 len1 cap1 z1) :
    Calls Tryf.prog 4 #[.slice a0 len0 cap0, .slice a1 len1 cap1] w fun e w' => e = .returned (.bool true) ∧ Below w.heap.size w w' := by
  have hcap : a0 = none → cap0 = 0 := by
    rcases w0 with ⟨_, _, h, _⟩ | ⟨x, h, _⟩
    · exact fun _ => h
    · intro e; rw [e] at h; cases h
  have came0 := came_of w0
  have came1 := came_of w1
  clear w0 w1
  by_cases hA : len0 + len1 ≤ 1048576
  · by_cases hB : (65536 : Int) < (len0 : Int)
    · clear came0 came1 hcap
      go_enter Tryf.func4, Tryf.ntmps4
      go_wp2_with (go_at_call 10; refine (bytes10_yes _ _ _ _ _ _ _ hA).mono ?_; rintro e w' ⟨rfl, rfl⟩)
      go_ret
      exact ⟨rfl, Below.refl _ _⟩
    · by_cases hC : (65536 : Int) < (len1 : Int)
      · clear came0 came1 hcap
        go_enter Tryf.func4, Tryf.ntmps4
        go_wp2_with (go_at_call 10; refine (bytes10_yes _ _ _ _ _ _ _ hA).mono ?_; rintro e w' ⟨rfl, rfl⟩)
        go_ret
        exact ⟨rfl, Below.refl _ _⟩
      · have l0 : len0 ≤ 65536 := by omega
        have l1 : len1 ≤ 65536 := by omega
        have d0 : decide ((65536 : Int) < (len0 : Int)) = false := decide_eq_false hB
        have d1 : decide ((65536 : Int) < (len1 : Int)) = false := decide_eq_false hC
        have hmk := run_make_row' (P := Tryf.prog) 33 4 (.bool false) 1 Tryf.underlying33 Tryf.info4 rfl .i64 .i64 len0 (by omega) (by omega)
        have hbox := Lib.hid (box_any a0 len0 cap0 _ w l0 hcap came0)
        obtain ⟨a, ha⟩ : ∃ a : Nat → Int, (fun i => z0.getD i 0) = a := ⟨_, rfl⟩
        obtain ⟨o, ho⟩ : ∃ o : Nat → Int, (fun i => z1.getD i 0) = o := ⟨_, rfl⟩
        rw [ha] at hbox came0
        rw [ho] at came1
        have C0 := Lib.hid came0
        have C1 := Lib.hid came1
        clear came0 came1 hcap ha ho
        go_enter Tryf.func4, Tryf.ntmps4
        go_wp2_with (go_at_call 10; refine (bytes10_yes _ _ _ _ _ _ _ hA).mono ?_; rintro e w' ⟨rfl, rfl⟩)
        refine hbox.out.mono ?_
        rintro e w1 ⟨ab, rfl, hbx, hb1⟩
        have X1 := Lib.hid hbx
        have B1 := Lib.hid hb1
        clear hbx hb1 hbox
        go_wp2_with fail
        refine (idx_any len0 _ l0).mono ?_
        rintro e w2 ⟨rfl, hr2, hb2⟩
        have R2 := Lib.hid hr2
        have B2 := Lib.hid hb2
        clear hr2 hb2
        have A3 : Hid (At (w2.alloc (.cells #[.bool false, .slice ab len0 len0, .slice (some ⟨w1.heap.size, 0, none⟩) len0 len0] 29)) w2.heap.size w.heap.size w1.heap.size len0 a (fun k => k)) :=
          at_made (.bool false) ab (fun hn => ⟨(X1.out hn).1, (X1.out hn).2.of_block (B2.out.block _ (X1.out hn).2.lt)⟩) R2.out (fun hn => by have := (X1.out hn).2.lt; omega)
        have B3 : Hid (Below w.heap.size w (w2.alloc (.cells #[.bool false, .slice ab len0 len0, .slice (some ⟨w1.heap.size, 0, none⟩) len0 len0] 29)) ∧ w2.heap.size < (w2.alloc (.cells #[.bool false, .slice ab len0 len0, .slice (some ⟨w1.heap.size, 0, none⟩) len0 len0] 29)).heap.size) := by
          have h := B1.out.trans (B2.out.mono B1.out.size)
          exact ⟨h.alloc h.size _, by simp⟩
        have z1' : w.heap.size ≤ w1.heap.size := B1.out.size
        have z2' : w1.heap.size ≤ w2.heap.size := B2.out.size
        clear X1 B1 R2 B2
        go_wp2
        generalize w2.alloc (.cells #[.bool false, .slice ab len0 len0, .slice (some ⟨w1.heap.size, 0, none⟩) len0 len0] 29) = w3 at A3 B3 ⊢
        go_loopw [7] (fun t wr => ∃ T m : Nat, Hid (T = 2 * m) ∧ T ≤ len1 ∧ t = .int .i64 (T : Int) ∧ At wr w2.heap.size w.heap.size w1.heap.size len0 a (st o len0 m) ∧ Below w.heap.size w wr ∧ w2.heap.size < wr.heap.size) (fun t _ => len1 + 2 - (intOf t).toNat)
        case atStart => exact ⟨0, 0, rfl, Nat.zero_le _, rfl, A3.out, B3.out.1, B3.out.2⟩
        case round =>
          clear A3 B3
          obtain ⟨T, m, HT, hT, rfl, hat, hbb⟩ := hrel
          have A := Lib.hid hat
          have BB := Lib.hid hbb
          clear hat hbb
          by_cases hlt : T + 1 < len1
          · obtain ⟨b, off, hb, hbw, hc⟩ := C1.out (by omega)
            subst hb
            obtain ⟨x, hx⟩ : ∃ x, o T = x := ⟨_, rfl⟩
            obtain ⟨y, hy⟩ : ∃ y, o (T + 1) = y := ⟨_, rfl⟩
            have c0 : wr.cell? ⟨b, off + T, none⟩ = some (.int .i64 x) := (BB.out.1.cell (p := ⟨b, off + T, none⟩) hbw).trans ((hc T (by omega)).trans (by rw [hx]))
            have c1 : wr.cell? ⟨b, off + (T + 1), none⟩ = some (.int .i64 y) := (BB.out.1.cell (p := ⟨b, off + (T + 1), none⟩) hbw).trans ((hc (T + 1) hlt).trans (by rw [hy]))
            have i1 : ((T : Int) + 1).toNat = T + 1 := by omega
            have i2 : (0 : Int) ≤ (T : Int) + 1 := by omega
            have i3 : (T : Int) + 1 < (len1 : Int) := by omega
            have i4 : (T : Int) < (len1 : Int) := by omega
            have HX := Lib.hid hx
            have HY := Lib.hid hy
            clear hx hy hc
            by_cases t1 : x < 0
            · go_wp2
              go_roundw
              case rel => exact ⟨T + 2, m + 1, by show _ = _; have := HT.out; omega, by omega, by go_num, by rw [st_miss o len0 m (by rw [← HT.out, HX.out, HY.out]; unfold InR; omega)]; exact A.out, BB.out⟩
              case measure => simp [intOf]; omega
            · by_cases t2 : (len0 : Int) ≤ x
              · go_wp2
                go_roundw
                case rel => exact ⟨T + 2, m + 1, by show _ = _; have := HT.out; omega, by omega, by go_num, by rw [st_miss o len0 m (by rw [← HT.out, HX.out, HY.out]; unfold InR; omega)]; exact A.out, BB.out⟩
                case measure => simp [intOf]; omega
              · by_cases t3 : y < 0
                · go_wp2
                  go_roundw
                  case rel => exact ⟨T + 2, m + 1, by show _ = _; have := HT.out; omega, by omega, by go_num, by rw [st_miss o len0 m (by rw [← HT.out, HX.out, HY.out]; unfold InR; omega)]; exact A.out, BB.out⟩
                  case measure => simp [intOf]; omega
                · by_cases t4 : (len0 : Int) ≤ y
                  · go_wp2
                    go_roundw
                    case rel => exact ⟨T + 2, m + 1, by show _ = _; have := HT.out; omega, by omega, by go_num, by rw [st_miss o len0 m (by rw [← HT.out, HX.out, HY.out]; unfold InR; omega)]; exact A.out, BB.out⟩
                    case measure => simp [intOf]; omega
                  · obtain ⟨i, rfl⟩ : ∃ i : Nat, x = (i : Int) := ⟨x.toNat, by omega⟩
                    obtain ⟨j, rfl⟩ : ∃ j : Nat, y = (j : Int) := ⟨y.toNat, by omega⟩
                    have hi : i < len0 := by omega
                    have hj : j < len0 := by omega
                    go_wp2_with fail
                    refine (swap_any _ _ _ len0 i j _ _ _ (A.out (by omega)) l0 hi hj).mono ?_
                    rintro e w4 ⟨rfl, hs4, hk4⟩
                    have S4 := Lib.hid (atSwapped hs4)
                    have K4 := Lib.hid hk4
                    clear hs4 hk4
                    go_wp2
                    go_roundw
                    case rel => exact ⟨T + 2, m + 1, by show _ = _; have := HT.out; omega, by omega, by go_num, by rw [st_hit o len0 m i j hi hj (by rw [← HT.out]; exact HX.out) (by rw [← HT.out]; exact HY.out)]; exact S4.out, K4.out.below BB.out.1 (Nat.le_refl _) z1', Nat.lt_of_lt_of_le BB.out.2 K4.out.size⟩
                    case measure => simp [intOf]; omega
          · have i3 : ¬ (T : Int) + 1 < (len1 : Int) := by omega
            have HM : Hid (m = len1 / 2) := by show _ = _; have := HT.out; omega
            have A5 : Hid (At (wr.alloc (.cells (madeCells #[.bool false] len0) 4)) w2.heap.size w.heap.size w1.heap.size len0 a (st o len0 m)) := fun hn => byAllocd (A.out hn) _
            have B5 : Hid (Below w.heap.size w (wr.alloc (.cells (madeCells #[.bool false] len0) 4))) := BB.out.1.alloc BB.out.1.size _
            have R5 : Hid ((wr.alloc (.cells (madeCells #[.bool false] len0) 4)).rowIs wr.heap.size 4 len0 (fun p => .bool (seenB (st o len0 m) 0 p))) := (World.rowIs_made wr (.bool false) len0 4).congr (fun p _ => by rw [seenB_zero])
            have hS : w2.heap.size < wr.heap.size := BB.out.2
            clear A BB HT
            go_wp2
            obtain ⟨S, hSS⟩ : ∃ S, wr.heap.size = S := ⟨_, rfl⟩
            rw [hSS] at R5 hS ⊢
            clear hSS
            generalize wr.alloc (.cells (madeCells #[.bool false] len0) 4) = w5 at A5 B5 R5 ⊢
            go_loopw [11] (fun k wr => ∃ t : Nat, t ≤ len0 ∧ k = .int .i64 (t : Int) ∧ At wr w2.heap.size w.heap.size w1.heap.size len0 a (st o len0 m) ∧ Below w.heap.size w wr ∧ wr.rowIs S 4 len0 (fun p => .bool (seenB (st o len0 m) t p))) (fun k _ => len0 - (intOf k).toNat)
            case atStart => exact ⟨0, Nat.zero_le _, rfl, A5.out, B5.out, R5.out⟩
            case round =>
              clear A5 B5 R5
              obtain ⟨t, ht, rfl, hat, hbb, hrr⟩ := hrel
              have A := Lib.hid hat
              have BB := Lib.hid hbb
              have RR := Lib.hid hrr
              clear hat hbb hrr
              by_cases hlt : t < len0
              · obtain ⟨b, off, hb, hbw, hc⟩ := C0.out (by omega)
                subst hb
                have hy := A.out (by omega)
                obtain ⟨q, hq⟩ : ∃ q, st o len0 m t = q := ⟨_, rfl⟩
                have hqn : q < len0 := by rw [← hq]; exact (good_st o len0 m).1 t hlt
                obtain ⟨x, hx⟩ : ∃ x, a q = x := ⟨_, rfl⟩
                have ca := hy.arr
                have cv := hy.vals
                have cq : wr.cell? ⟨w1.heap.size, t, none⟩ = some (.iface 3 (.int .i64 (q : Int))) := by
                  have h := hy.r2.cell hlt
                  rw [hq] at h
                  exact h
                have cs : wr.cell? ⟨S, q, none⟩ = some (.bool false) := by
                  have h := RR.out.cell hqn
                  have h2 := seenB_fresh (good_st o len0 m) hlt
                  rw [hq] at h2
                  rw [h2] at h
                  exact h
                have fs := RR.out.frozen q
                have Y5 := Lib.hid (byOther (S := S) hy (by omega) (by omega) (by omega) q (.bool true))
                have B5 := Lib.hid (BB.out.setCell (p := ⟨S, q, none⟩) (by show w.heap.size ≤ S; omega) (.bool true))
                have R5 : Hid ((wr.setCell ⟨S, q, none⟩ (.bool true)).rowIs S 4 len0 (fun p => .bool (seenB (st o len0 m) (t + 1) p))) := by
                  refine (RR.out.set q (.bool true)).congr (fun p hp => ?_)
                  rw [seenB_succ, hq]
                  by_cases e : p = q
                  · subst e; rw [if_pos rfl]; simp
                  · rw [if_neg e]
                    have e' : (q == p) = false := by simp; omega
                    rw [e']; simp
                have X5 : Hid ((wr.setCell ⟨S, q, none⟩ (.bool true)).cell? ⟨w.heap.size, t, none⟩ = some (.iface 3 (.int .i64 x))) := by
                  have h := Y5.out.r1.cell hlt
                  rw [hq, hx] at h
                  exact h
                have Z5 : Hid ((wr.setCell ⟨S, q, none⟩ (.bool true)).cell? ⟨b, off + q, none⟩ = some (.int .i64 x)) := (B5.out.cell (p := ⟨b, off + q, none⟩) hbw).trans ((hc q hqn).trans (by rw [hx]))
                have n1 : decide ((q : Int) < 0) = false := decide_eq_false (by omega)
                have n2 : decide ((len0 : Int) ≤ (q : Int)) = false := decide_eq_false (by omega)
                have n3 : (q : Int) < (len0 : Int) := by omega
                have n4 : (t : Int) < (len0 : Int) := by omega
                clear hx hq hc hy RR A BB
                go_wp2_with (go_at_call 9; refine (toInt_int _ _).mono ?_; rintro e w' ⟨rfl, rfl⟩)
                clear ca cv cq cs fs
                generalize wr.setCell ⟨S, q, none⟩ (.bool true) = ws at Y5 B5 R5 X5 Z5 ⊢
                have ca := Y5.out.arr
                have cx := X5.out
                have cz := Z5.out
                clear X5 Z5
                go_quiet ((go_at_call 9; exact Calls.quiet_of_same (toInt_int _ _)))
                go_wp2
                go_roundw
                case rel => exact ⟨t + 1, by omega, by go_num, fun _ => byDraws Y5.out _, belowDraws B5.out _, R5.out⟩
                case measure => simp [intOf]; omega
              · obtain rfl : t = len0 := by omega
                clear RR hmk
                go_wp2
                go_loopw [14] (fun k wr => ∃ T : Nat, T ≤ len1 / 2 ∧ k = .int .i64 ((T : Int) - 1) ∧ At wr w2.heap.size w.heap.size w1.heap.size t a (st o t T) ∧ Below w.heap.size w wr) (fun k _ => (intOf k + 1).toNat)
                case atStart => exact ⟨m, by have := HM.out; omega, by have := HM.out; go_num, A.out, BB.out⟩
                case round =>
                  clear A BB HM
                  obtain ⟨T1, hT, rfl, hat, hbb⟩ := hrel
                  have A := Lib.hid hat
                  have BB := Lib.hid hbb
                  clear hat hbb
                  by_cases hlt : 0 < T1
                  · obtain ⟨T, rfl⟩ : ∃ T, T1 = T + 1 := ⟨T1 - 1, by omega⟩
                    rw [show (((T + 1 : Nat) : Int) - 1) = (T : Int) from by omega]
                    obtain ⟨b, off, hb, hbw, hc⟩ := C1.out (by omega)
                    subst hb
                    obtain ⟨x, hx⟩ : ∃ x, o (2 * T) = x := ⟨_, rfl⟩
                    obtain ⟨y, hy⟩ : ∃ y, o (2 * T + 1) = y := ⟨_, rfl⟩
                    have c0 : wr.cell? ⟨b, off + 2 * T, none⟩ = some (.int .i64 x) := (BB.out.cell (p := ⟨b, off + 2 * T, none⟩) hbw).trans ((hc (2 * T) (by omega)).trans (by rw [hx]))
                    have c1 : wr.cell? ⟨b, off + (2 * T + 1), none⟩ = some (.int .i64 y) := (BB.out.cell (p := ⟨b, off + (2 * T + 1), none⟩) hbw).trans ((hc (2 * T + 1) (by omega)).trans (by rw [hy]))
                    have i1 : (2 * (T : Int) + 1).toNat = 2 * T + 1 := by omega
                    have i2 : (0 : Int) ≤ 2 * (T : Int) + 1 := by omega
                    have i3 : 2 * (T : Int) + 1 < (len1 : Int) := by omega
                    have i4 : 2 * (T : Int) < (len1 : Int) := by omega
                    have i5 : (2 * (T : Int)).toNat = 2 * T := by omega
                    have i6 : (0 : Int) ≤ 2 * (T : Int) := by omega
                    have i7 : (0 : Int) ≤ (T : Int) := by omega
                    have HX := Lib.hid hx
                    have HY := Lib.hid hy
                    clear hx hy hc
                    by_cases t1 : x < 0
                    · go_wp2
                      go_roundw
                      case rel => exact ⟨T, by omega, by go_num, by rw [← st_miss o t T (by rw [HX.out, HY.out]; unfold InR; omega)]; exact A.out, BB.out⟩
                      case measure => simp [intOf] <;> omega
                    · by_cases t2 : (t : Int) ≤ x
                      · go_wp2
                        go_roundw
                        case rel => exact ⟨T, by omega, by go_num, by rw [← st_miss o t T (by rw [HX.out, HY.out]; unfold InR; omega)]; exact A.out, BB.out⟩
                        case measure => simp [intOf] <;> omega
                      · by_cases t3 : y < 0
                        · go_wp2
                          go_roundw
                          case rel => exact ⟨T, by omega, by go_num, by rw [← st_miss o t T (by rw [HX.out, HY.out]; unfold InR; omega)]; exact A.out, BB.out⟩
                          case measure => simp [intOf] <;> omega
                        · by_cases t4 : (t : Int) ≤ y
                          · go_wp2
                            go_roundw
                            case rel => exact ⟨T, by omega, by go_num, by rw [← st_miss o t T (by rw [HX.out, HY.out]; unfold InR; omega)]; exact A.out, BB.out⟩
                            case measure => simp [intOf] <;> omega
                          · obtain ⟨i, rfl⟩ : ∃ i : Nat, x = (i : Int) := ⟨x.toNat, by omega⟩
                            obtain ⟨j, rfl⟩ : ∃ j : Nat, y = (j : Int) := ⟨y.toNat, by omega⟩
                            have hi : i < t := by omega
                            have hj : j < t := by omega
                            go_wp2_with fail
                            refine (swap_any _ _ _ t i j _ _ _ (A.out (by omega)) l0 hi hj).mono ?_
                            rintro e w4 ⟨rfl, hs4, hk4⟩
                            have S4 := atSwapped hs4
                            rw [st_hit o t T i j hi hj HX.out HY.out, swp_twice] at S4
                            have S5 := Lib.hid S4
                            have K4 := Lib.hid hk4
                            clear hs4 hk4 S4
                            go_wp2
                            go_roundw
                            case rel => exact ⟨T, by omega, by go_num, S5.out, K4.out.below BB.out (Nat.le_refl _) z1'⟩
                            case measure => simp [intOf] <;> omega
                  · obtain rfl : T1 = 0 := by omega
                    have e0 : (((0 : Nat) : Int) - 1) = -1 := by omega
                    rw [e0]
                    clear e0
                    go_wp2
                    go_loopw [17] (fun k wr => ∃ s : Nat, s ≤ t ∧ k = .int .i64 (s : Int) ∧ At wr w2.heap.size w.heap.size w1.heap.size t a (fun k => k) ∧ Below w.heap.size w wr) (fun k _ => t - (intOf k).toNat)
                    case atStart => exact ⟨0, Nat.zero_le _, rfl, A.out, BB.out⟩
                    case round =>
                      clear A BB
                      obtain ⟨s, hs, rfl, hat, hbb⟩ := hrel
                      have A := Lib.hid hat
                      have BB := Lib.hid hbb
                      clear hat hbb
                      by_cases hst : s < t
                      · obtain ⟨b, off, hb, hbw, hc⟩ := C0.out (by omega)
                        subst hb
                        have hy := A.out (by omega)
                        obtain ⟨x, hx⟩ : ∃ x, a s = x := ⟨_, rfl⟩
                        have ca := hy.arr
                        have cv := hy.vals
                        have cq : wr.cell? ⟨w1.heap.size, s, none⟩ = some (.iface 3 (.int .i64 (s : Int))) := hy.r2.cell hst
                        have cx : wr.cell? ⟨w.heap.size, s, none⟩ = some (.iface 3 (.int .i64 x)) := by
                          have h := hy.r1.cell hst
                          rw [hx] at h
                          exact h
                        have cz : wr.cell? ⟨b, off + s, none⟩ = some (.int .i64 x) := (BB.out.cell (p := ⟨b, off + s, none⟩) hbw).trans ((hc s hst).trans (by rw [hx]))
                        have n4 : (s : Int) < (t : Int) := by omega
                        clear hx hc hy
                        go_wp2
                        go_quiet ((go_at_call 9; exact Calls.quiet_of_same (toInt_int _ _)))
                        go_wp2
                        go_roundw
                        case rel => exact ⟨s + 1, by omega, by go_num, fun hn => byDraws (A.out hn) _, belowDraws BB.out _⟩
                        case measure => simp [intOf]; omega
                      · obtain rfl : s = t := by omega
                        go_wp2
                        go_ret
                        exact ⟨rfl, BB.out⟩
  · clear came0 came1 hcap
    go_enter Tryf.func4, Tryf.ntmps4
    go_wp2_with (go_at_call 10; refine (bytes10_no _ _ _ _ _ _ _ hA).mono ?_; rintro e w' ⟨rfl, rfl⟩)
    go_ret
    exact ⟨rfl, Below.refl _ _⟩

set_option maxRecDepth 100000 in
theorem lifted (os : Os) (started : os.Started) (H : Type) (enc : TypeId × Value → H) :
    ReturnsInTold none {} Tryf.checked os 4 .any Input.okWide ((OpenSpec.ofChange Rows.fnSortBySwapScriptKeepsPairsSpec).preRow enc Tryf.prog Tryf.f4 [] false []) (fun F => ((OpenSpec.ofChange Rows.fnSortBySwapScriptKeepsPairsSpec).at F).post enc Tryf.prog Tryf.f4 false true false false) (aloneAtReturn Tryf.prog) nothingAlways := by
  refine returnsInTold_of_row (C := Tryf.checked) (s := OpenSpec.ofChange Rows.fnSortBySwapScriptKeepsPairsSpec) (by kernel_rfl) own started (by kernel_rfl) Tryf.func4
    (OpenSpec.witness_stopped (enc := enc) (C := Tryf.checked) false ⟨#[], #[.slice none 0 0, .slice none 0 0], []⟩ 8 (by kernel_rfl) (by kernel_rfl) (by kernel_rfl) (by kernel_rfl)) ?_
  intro F W base args ds gs before _ hF hval0 hW _ _ hsz _ _
  have hval : ∀ (j : Nat) t v, Tryf.f4.params[j]? = some t → args[j]? = some v → Value.okWide Tryf.prog W .any base t v := hval0
  have hW' := hW
  obtain ⟨p, q, hA0, hV, rfl, hfz, hnd⟩ := hW
  have hA : DataW.TrodAll enc Tryf.prog W 0 (fun _ => true) true Tryf.f4.params.toList args.toList ds p := hA0
  rw [Tryf.params4] at hA hval
  obtain ⟨v0, vs0, d0, ds0, p0, q0, hargs, rfl, rfl, h0, r0⟩ := trodAll_cons hA
  obtain ⟨v1, vs1, d1, ds1, p1, q1, rfl, rfl, rfl, h1, r1⟩ := trodAll_cons r0
  obtain ⟨rfl, rfl, rfl⟩ := trodAll_nil r1
  obtain rfl : args = #[v0, v1] := by cases args; simp_all
  obtain ⟨rfl, rfl⟩ := trodVars_none hV
  obtain ⟨a0, len0, cap0, rfl⟩ := okWide_slice Tryf.underlying22 (hval 0 22 v0 rfl rfl)
  have k0 := h0
  have lt0 : ∀ x ∈ p0, x.block < W.heap.size := by obtain ⟨m, hm⟩ := k0; exact DataW.trod_lt m _ _ _ hm
  obtain ⟨z0, w0⟩ : ∃ zs, IsRow .i64 W a0 len0 cap0 zs := by
    obtain ⟨fuel, hf⟩ := h0
    rcases open_ints Tryf.underlying22 Tryf.underlying3 (by kernel_rfl) hf with ⟨hcs, _⟩ | ⟨x, l, c, zs, hcs, _, hl, hm, hz, _, hcell, hwz⟩
    · simp [Value.cells] at hcs
      obtain ⟨rfl, rfl, rfl⟩ := hcs
      exact ⟨[], .inl ⟨rfl, rfl, rfl, rfl⟩⟩
    · simp [Value.cells] at hcs
      obtain ⟨rfl, rfl, rfl⟩ := hcs
      exact ⟨zs, .inr ⟨_, rfl, hl, hm, by simpa using hz, hcell, hwz⟩⟩
  obtain ⟨a1, len1, cap1, rfl⟩ := okWide_slice Tryf.underlying22 (hval 1 22 v1 rfl rfl)
  have k1 := h1
  have lt1 : ∀ x ∈ p1, x.block < W.heap.size := by obtain ⟨m, hm⟩ := k1; exact DataW.trod_lt m _ _ _ hm
  obtain ⟨z1, w1⟩ : ∃ zs, IsRow .i64 W a1 len1 cap1 zs := by
    obtain ⟨fuel, hf⟩ := h1
    rcases open_ints Tryf.underlying22 Tryf.underlying3 (by kernel_rfl) hf with ⟨hcs, _⟩ | ⟨x, l, c, zs, hcs, _, hl, hm, hz, _, hcell, hwz⟩
    · simp [Value.cells] at hcs
      obtain ⟨rfl, rfl, rfl⟩ := hcs
      exact ⟨[], .inl ⟨rfl, rfl, rfl, rfl⟩⟩
    · simp [Value.cells] at hcs
      obtain ⟨rfl, rfl, rfl⟩ := hcs
      exact ⟨zs, .inr ⟨_, rfl, hl, hm, by simpa using hz, hcell, hwz⟩⟩
  clear hA0 hval0
  refine (walk a0 len0 cap0 z0 a1 len1 cap1 z1 W w0 w1).mono fun e W' ⟨he, bel⟩ => ?_
  subst he
  exact ⟨_, rfl, _, _, _, [], _, [], hW', trodAll_mk1 (shut_bool Tryf.underlying4 _), (trodAll_cons_mk (Below.trod laidOut (by kernel_rfl) (of_decide_eq_true (by kernel_rfl)) k0 bel lt0) (trodAll_cons_mk (Below.trod laidOut (by kernel_rfl) (of_decide_eq_true (by kernel_rfl)) k1 bel lt1) trodAll_mk0)), rfl, bel.frame _, fun h => by cases h⟩

theorem proved : Rows.FnSortBySwapScriptKeepsPairsToldSaid :=
  Claim7.holds_of_told_any 4 Tryf.f4 "fmt.Sprintf" [] [] _ _ _ (by kernel_rfl) rfl rfl rfl laidOut (by kernel_rfl) rfl ⟨rfl, rfl, rfl, rfl, rfl, rfl, rfl⟩ rfl rfl (by kernel_rfl) (by kernel_rfl) Tryf.func4 (by kernel_rfl)
    (of_decide_eq_true (by kernel_rfl)) (by unfold Func.isWrapper; first | (rw [if_pos (by decide +kernel)]; kernel_rfl) | (rw [if_neg (by decide +kernel)]; exact ⟨rfl, rfl⟩)) stops.symm rfl stopKnobs.symm (by kernel_rfl)
    (by kernel_rfl) (by kernel_rfl) (by kernel_rfl) (by kernel_rfl) (by kernel_rfl) (by kernel_rfl) (by kernel_rfl) (by kernel_rfl) (by kernel_rfl) rfl (by kernel_rfl) rfl rfl
    rfl rfl
    rfl (by kernel_rfl) (by kernel_rfl) (by kernel_rfl) (by decide) (by kernel_rfl)
    (OpenClaim.moreEntering_of (by kernel_rfl) (by kernel_rfl) (by kernel_rfl) (by kernel_rfl) (by kernel_rfl) (by kernel_rfl) (by kernel_rfl) (by kernel_rfl) (by kernel_rfl) (by kernel_rfl))
    ⟨_, WideRow.started_initial, quiet _⟩
    (fun os started _ H enc _ => lifted os started H enc)
end Go.Proofs.YtbknalnkkiohjaaFmt.fnSortBySwapScriptKeepsPairs
