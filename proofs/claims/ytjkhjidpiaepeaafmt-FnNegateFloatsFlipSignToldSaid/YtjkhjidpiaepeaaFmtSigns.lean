/-
  Plain mathematics of IEEE words, continued: a word against itself, against zero, zero less a word, one by a zero.
-/
import Derived.Test.YtjkhjidpiaepeaaFmtIeee
namespace Go.Proofs.YtjkhjidpiaepeaaFmt
open Ieee
set_option linter.unusedVariables false

theorem cmp_self (a : Int) : compare a a = Ordering.eq := by simp [compare, compareOfLessAndEq]
theorem cmp_lt (a b : Int) (h : a < b) : compare a b = Ordering.lt := by simp [compare, compareOfLessAndEq, h]
theorem cmp_gt (a b : Int) (h : b < a) : compare a b = Ordering.gt := by
  have h1 : ¬ a < b := by omega
  have h2 : ¬ a = b := by omega
  simp [compare, compareOfLessAndEq, h1, h2]

theorem shl (m k : Nat) : m <<< k = m * 2 ^ k := Nat.shiftLeft_eq m k
theorem signed_f (m k : Nat) : signed false m k = ((m * 2 ^ k : Nat) : Int) := by show ((m <<< k : Nat) : Int) = _; rw [shl]
theorem signed_t (m k : Nat) : signed true m k = -((m * 2 ^ k : Nat) : Int) := by show -((m <<< k : Nat) : Int) = _; rw [shl]
theorem signed_zero (s : Bool) (k : Nat) : signed s 0 k = 0 := by cases s <;> simp [signed, shl]
theorem signed_pos (m k : Nat) (h : m ≠ 0) : 0 < signed false m k := by
  have : 0 < m * 2 ^ k := Nat.mul_pos (Nat.pos_of_ne_zero h) (Nat.two_pow_pos k)
  rw [signed_f]
  omega
theorem signed_neg (m k : Nat) (h : m ≠ 0) : signed true m k < 0 := by
  have : 0 < m * 2 ^ k := Nat.mul_pos (Nat.pos_of_ne_zero h) (Nat.two_pow_pos k)
  rw [signed_t]
  omega

theorem rd_nan (f : Format) (s : Bool) (rung : Nat) (hb : f.binade ≤ f.infRung) (h : f.infRung < rung) : rd f s rung = .nan s (rung - f.infRung) := by
  unfold rd
  rw [if_neg (by omega), if_neg (by omega), if_neg (by omega)]

/-- The parts of a finite word. -/
theorem rd_number (f : Format) (s : Bool) (rung : Nat) (hb : f.binade ≤ f.infRung) (h : rung < f.infRung) :
    ∃ m k : Nat, rd f s rung = .number s m (f.leastPlace + (k : Int)) ∧ ((m < f.binade ∧ k = 0) ∨ (f.binade ≤ m ∧ m < 2 * f.binade)) ∧ k * f.binade + m = rung ∧ (m = 0 ↔ rung = 0) := by
  have hp := bin_pos f
  by_cases c : rung < f.binade
  · refine ⟨rung, 0, ?_, .inl ⟨c, rfl⟩, by omega, Iff.rfl⟩
    unfold rd; rw [if_pos c]; simp
  · have hq : 0 < rung / f.binade := Nat.div_pos (by omega) hp
    have hmod : rung % f.binade < f.binade := Nat.mod_lt _ hp
    refine ⟨f.binade + rung % f.binade, rung / f.binade - 1, ?_, .inr ⟨by omega, by omega⟩, ?_, by omega⟩
    · unfold rd; rw [if_neg c, if_pos h]
    · have e := Nat.div_add_mod rung f.binade
      have e2 : (rung / f.binade - 1) * f.binade = f.binade * (rung / f.binade) - f.binade := by rw [Nat.sub_mul, Nat.mul_comm, Nat.one_mul]
      have e3 : f.binade ≤ f.binade * (rung / f.binade) := Nat.le_mul_of_pos_right _ hq
      omega

theorem rd_inf (f : Format) (s : Bool) (hb : f.binade ≤ f.infRung) : rd f s f.infRung = .infinity s := by
  unfold rd
  rw [if_neg (by omega), if_neg (by omega), if_pos rfl]

theorem read_zero (f : Format) : f.read 0 = .number false 0 f.leastPlace := by
  have h := read_word f false 0 (sw_pos f)
  have e : f.word false 0 = 0 := rfl
  rw [e] at h
  rw [h]
  unfold rd
  rw [if_pos (bin_pos f)]

theorem self_eq (f : Format) (s : Bool) (rung : Nat) (hb : f.binade ≤ f.infRung) (hs : rung < f.signWeight) (h : rung ≤ f.infRung) : f.order (f.word s rung) (f.word s rung) = some .eq := by
  unfold Format.order
  rw [read_word f s rung hs]
  by_cases c : rung = f.infRung
  · subst c
    rw [rd_inf f s hb]
    cases s <;> rfl
  · obtain ⟨m, k, e, _⟩ := rd_number f s rung hb (by omega)
    rw [e]
    simp only [Datum.order]
    rw [cmp_self]

theorem self_nan (f : Format) (s : Bool) (rung : Nat) (hb : f.binade ≤ f.infRung) (hs : rung < f.signWeight) (h : f.infRung < rung) : f.order (f.word s rung) (f.word s rung) = none := by
  unfold Format.order
  rw [read_word f s rung hs, rd_nan f s rung hb h]
  rfl

/-- A word that is no NaN against zero. -/
theorem zero_eq (f : Format) (s : Bool) (hb : f.binade ≤ f.infRung) : f.order (f.word s 0) 0 = some .eq := by
  unfold Format.order
  rw [read_word f s 0 (sw_pos f), read_zero f]
  obtain ⟨m, k, e, _, _, hz⟩ := rd_number f s 0 hb (by have := bin_pos f; omega)
  rw [e]
  have hm : m = 0 := hz.2 rfl
  subst hm
  simp only [Datum.order]
  rw [signed_zero, signed_zero, cmp_self]

theorem zero_side (f : Format) (s : Bool) (rung : Nat) (hb : f.binade ≤ f.infRung) (hs : rung < f.signWeight) (h : rung ≤ f.infRung) (h0 : rung ≠ 0) : f.order (f.word s rung) 0 = some (if s then .lt else .gt) := by
  unfold Format.order
  rw [read_word f s rung hs, read_zero f]
  by_cases c : rung = f.infRung
  · subst c
    rw [rd_inf f s hb]
    cases s <;> rfl
  · obtain ⟨m, k, e, _, _, hz⟩ := rd_number f s rung hb (by omega)
    have hm : m ≠ 0 := fun e => h0 (hz.1 e)
    rw [e]
    simp only [Datum.order]
    rw [signed_zero]
    cases s with
    | false => rw [cmp_gt _ _ (signed_pos m _ hm)]; rfl
    | true => rw [cmp_lt _ _ (signed_neg m _ hm)]; rfl

/-- Zero less a word that is no NaN is the word with its sign flipped, or a zero where that is a zero. -/
theorem sub_flip (f : Format) (s : Bool) (rung : Nat) (hb : f.binade ≤ f.infRung) (hs : rung < f.signWeight) (h : rung ≤ f.infRung) :
    ∃ r, f.sub 0 (f.word s rung) = some r ∧ f.order (f.word (!s) rung) r = some .eq := by
  unfold Format.sub
  rw [read_word f s rung hs, read_zero f, opp_rd]
  by_cases c : rung = f.infRung
  · subst c
    rw [rd_inf f (!s) hb]
    exact ⟨f.word (!s) f.infRung, rfl, self_eq f (!s) f.infRung hb hs (Nat.le_refl _)⟩
  · obtain ⟨m, k, e, hm, hr, hz⟩ := rd_number f (!s) rung hb (by omega)
    rw [e]
    have hbase : min f.leastPlace (f.leastPlace + (k : Int)) = f.leastPlace := by omega
    have e2 : (f.leastPlace + (k : Int) - f.leastPlace).toNat = k := by omega
    simp only [Datum.sum, hbase, e2, signed_zero, Option.map_some]
    by_cases m0 : m = 0
    · have hr0 : rung = 0 := hz.1 m0
      subst m0
      subst hr0
      refine ⟨_, rfl, ?_⟩
      rw [signed_zero]
      simp only [Int.add_zero, if_true]
      have en : f.write (Datum.number (false && !s) 0 f.leastPlace) = 0 := by
        show f.nearest _ 0 _ = 0
        unfold Format.nearest
        rw [if_pos rfl]
        rfl
      have en' : f.write (Datum.number (false && !s) (Int.natAbs 0) f.leastPlace) = 0 := en
      rw [en']
      exact zero_eq f (!s) hb
    · have hM : m * 2 ^ k ≠ 0 := Nat.mul_ne_zero m0 (Nat.ne_of_gt (Nat.two_pow_pos k))
      have ht : (0 : Int) + signed (!s) m k ≠ 0 := by
        cases s with
        | false => have := signed_neg m k m0; simp only [Bool.not_false]; omega
        | true => have := signed_pos m k m0; simp only [Bool.not_true]; omega
      have hd : decide ((0 : Int) + signed (!s) m k < 0) = !s := by
        cases s with
        | false => have := signed_neg m k m0; simp only [Bool.not_false]; exact decide_eq_true (by omega)
        | true => have := signed_pos m k m0; simp only [Bool.not_true]; exact decide_eq_false (by omega)
      have hn : ((0 : Int) + signed (!s) m k).natAbs = m * 2 ^ k := by
        cases s with
        | false => simp only [Bool.not_false]; rw [signed_t]; omega
        | true => simp only [Bool.not_true]; rw [signed_f]; omega
      rw [if_neg ht, hd, hn]
      refine ⟨_, rfl, ?_⟩
      have en : f.write (Datum.number (!s) (m * 2 ^ k) f.leastPlace) = f.word (!s) rung := by
        show f.nearest (!s) (m * 2 ^ k) f.leastPlace = _
        rw [nearest_exact f (!s) m k m0 hm (by omega), hr]
      rw [en]
      exact self_eq f (!s) rung hb hs h

/-- A number that is not zero, divided by a zero, is an infinity. -/
theorem div_zero (f : Format) (one m1 : Nat) (e1 : Int) (s : Bool) (hb : f.binade ≤ f.infRung) (h1 : f.read one = .number false m1 e1) (hm : m1 ≠ 0) : f.div one (f.word s 0) = some (f.word s f.infRung) := by
  unfold Format.div
  rw [h1, read_word f s 0 (sw_pos f)]
  obtain ⟨m, k, e, _, _, hz⟩ := rd_number f s 0 hb (by have := bin_pos f; omega)
  have m0 : m = 0 := hz.2 rfl
  subst m0
  rw [e]
  simp only [Datum.quotient, if_true, if_neg hm]
  cases s <;> rfl
end Go.Proofs.YtjkhjidpiaepeaaFmt
