/-
  Plain mathematics: the state of the two lists behind a script of swaps, as one permutation of the indices; undoing a swap; the table of indices that have been met.
-/
import Derived.Test.YtbknalnkkiohjaaFmtSwapb
namespace Go.Proofs.YtbknalnkkiohjaaFmt
set_option linter.unusedVariables false

theorem swp_comp {α β : Type} (h : α → β) (σ : Nat → α) (i j : Nat) : swp (fun k => h (σ k)) i j = fun k => h (swp σ i j k) := by
  funext k
  unfold swp
  by_cases a : k = i
  · rw [if_pos a, if_pos a]
  · rw [if_neg a, if_neg a]
    by_cases b : k = j
    · rw [if_pos b, if_pos b]
    · rw [if_neg b, if_neg b]

theorem swp_twice {α : Type} (f : Nat → α) (i j : Nat) : swp (swp f i j) i j = f := by
  funext k
  unfold swp
  by_cases a : k = i
  · by_cases b : k = j
    · subst a; subst b; simp
    · subst a
      have b' : ¬ j = k := fun e => b e.symm
      simp [b']
  · by_cases b : k = j
    · subst b; simp [a]
    · simp [a, b]

/-- Both numbers are indices below n. -/
abbrev InR (n : Nat) (x y : Int) : Prop := 0 ≤ x ∧ x < (n : Int) ∧ 0 ≤ y ∧ y < (n : Int)

/-- The permutation behind the first t pairs of the script o. -/
def st (o : Nat → Int) (n : Nat) : Nat → Nat → Nat
  | 0 => fun k => k
  | t + 1 => if InR n (o (2 * t)) (o (2 * t + 1)) then swp (st o n t) (o (2 * t)).toNat (o (2 * t + 1)).toNat else st o n t

theorem st_hit (o : Nat → Int) (n t i j : Nat) (hi : i < n) (hj : j < n) (h1 : o (2 * t) = (i : Int)) (h2 : o (2 * t + 1) = (j : Int)) : st o n (t + 1) = swp (st o n t) i j := by
  show (if _ then _ else _) = _
  have h : InR n (o (2 * t)) (o (2 * t + 1)) := by rw [h1, h2]; unfold InR; omega
  rw [if_pos h, h1, h2]
  simp
theorem st_miss (o : Nat → Int) (n t : Nat) (h : ¬ InR n (o (2 * t)) (o (2 * t + 1))) : st o n (t + 1) = st o n t := by
  show (if _ then _ else _) = _
  rw [if_neg h]

/-- A permutation of the indices below n. -/
def Good (n : Nat) (σ : Nat → Nat) : Prop := (∀ k, k < n → σ k < n) ∧ ∀ k l, k < n → l < n → σ k = σ l → k = l

theorem Good.swp {n : Nat} {σ : Nat → Nat} (h : Good n σ) {i j : Nat} (hi : i < n) (hj : j < n) : Good n (swp σ i j) := by
  refine ⟨fun k hk => ?_, fun k l hk hl e => ?_⟩
  · unfold YtbknalnkkiohjaaFmt.swp
    split
    · exact h.1 j hj
    · split
      · exact h.1 i hi
      · exact h.1 k hk
  · have key : ∀ k, k < n → YtbknalnkkiohjaaFmt.swp σ i j k = σ (YtbknalnkkiohjaaFmt.swp (fun k => k) i j k) := fun k _ => congrFun (swp_comp σ (fun k => k) i j) k
    have low : ∀ k, k < n → YtbknalnkkiohjaaFmt.swp (fun k => k) i j k < n := fun k hk => by
      unfold YtbknalnkkiohjaaFmt.swp
      split
      · exact hj
      · split
        · exact hi
        · exact hk
    rw [key k hk, key l hl] at e
    have e2 := h.2 _ _ (low k hk) (low l hl) e
    have inv : ∀ k, YtbknalnkkiohjaaFmt.swp (fun k => k) i j (YtbknalnkkiohjaaFmt.swp (fun k => k) i j k) = k := fun k => by
      have t := congrFun (swp_twice (fun k : Nat => k) i j) k
      rw [swp_comp (YtbknalnkkiohjaaFmt.swp (fun k => k) i j) (fun k => k) i j] at t
      exact t
    rw [← inv k, ← inv l, e2]

theorem good_st (o : Nat → Int) (n t : Nat) : Good n (st o n t) := by
  induction t with
  | zero => exact ⟨fun k hk => hk, fun k l _ _ e => e⟩
  | succ t ih =>
    by_cases h : InR n (o (2 * t)) (o (2 * t + 1))
    · have hh := h
      unfold InR at hh
      rw [st_hit o n t (o (2 * t)).toNat (o (2 * t + 1)).toNat (by omega) (by omega) (by omega) (by omega)]
      exact ih.swp (by omega) (by omega)
    · rw [st_miss o n t h]; exact ih

/-- Has the index p been met among the first k values of σ? -/
def seenB (σ : Nat → Nat) (k p : Nat) : Bool := (List.range k).any (fun j => σ j == p)
theorem seenB_zero (σ : Nat → Nat) (p : Nat) : seenB σ 0 p = false := rfl
theorem seenB_succ (σ : Nat → Nat) (k p : Nat) : seenB σ (k + 1) p = (seenB σ k p || σ k == p) := by
  simp [seenB, List.range_succ, List.any_append]
theorem seenB_fresh {n : Nat} {σ : Nat → Nat} (h : Good n σ) {k : Nat} (hk : k < n) : seenB σ k (σ k) = false := by
  unfold seenB
  rw [List.any_eq_false]
  intro j hj e
  have hj' : j < k := List.mem_range.1 hj
  have := h.2 j k (by omega) hk (by simpa using e)
  omega
end Go.Proofs.YtbknalnkkiohjaaFmt
