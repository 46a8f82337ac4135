/-
  Plain mathematics of IEEE words: flipping the sign bit, subtracting from zero, the sign of a word that is no NaN.
-/
import Derived.Laws.FloatArith
import GoSem.Op.Unary
namespace Go.Proofs.YtjkhjidpiaepeaaFmt
open Ieee
set_option linter.unusedVariables false

/-- What a sign and a rung stand for. -/
def rd (f : Format) (neg : Bool) (rung : Nat) : Datum :=
  if rung < f.binade then .number neg rung f.leastPlace
  else if rung < f.infRung then .number neg (f.binade + rung % f.binade) (f.leastPlace + (rung / f.binade - 1 : Nat))
  else if rung = f.infRung then .infinity neg
  else .nan neg (rung - f.infRung)

theorem sw_pos (f : Format) : 0 < f.signWeight := Nat.two_pow_pos _
theorem bin_pos (f : Format) : 0 < f.binade := Nat.two_pow_pos _

theorem inf_lt (f : Format) : f.infRung < f.signWeight := by
  unfold Format.infRung Format.signWeight Format.binade
  rw [Nat.pow_add]
  have h1 : 0 < 2 ^ f.fractionBits := Nat.two_pow_pos _
  have h2 : 0 < 2 ^ f.exponentBits := Nat.two_pow_pos _
  exact (Nat.mul_lt_mul_right h1).2 (by omega)

theorem read_word (f : Format) (neg : Bool) (rung : Nat) (h : rung < f.signWeight) : f.read (f.word neg rung) = rd f neg rung := by
  have hp := sw_pos f
  cases neg with
  | false =>
    have e1 : rung / f.signWeight = 0 := Nat.div_eq_of_lt h
    have e2 : rung % f.signWeight = rung := Nat.mod_eq_of_lt h
    simp [Format.read, Format.word, rd, e1, e2]
  | true =>
    have e1 : (f.signWeight + rung) / f.signWeight = 1 := by rw [Nat.add_div_left _ hp, Nat.div_eq_of_lt h]
    have e2 : (f.signWeight + rung) % f.signWeight = rung := by rw [Nat.add_mod_left, Nat.mod_eq_of_lt h]
    simp [Format.read, Format.word, rd, e1, e2]

theorem word_of (f : Format) (x : Nat) (h : x < 2 * f.signWeight) : ∃ neg rung, rung < f.signWeight ∧ x = f.word neg rung := by
  by_cases c : x < f.signWeight
  · exact ⟨false, x, c, rfl⟩
  · exact ⟨true, x - f.signWeight, by omega, by show x = f.signWeight + (x - f.signWeight); omega⟩

theorem opp_rd (f : Format) (neg : Bool) (rung : Nat) : (rd f neg rung).opposite = rd f (!neg) rung := by
  unfold rd
  split
  · rfl
  · split
    · rfl
    · split <;> rfl

theorem xor_pow (n x : Nat) (h : x < 2 ^ n) : x ^^^ 2 ^ n = 2 ^ n + x := by
  apply Nat.eq_of_testBit_eq
  intro i
  rw [Nat.testBit_xor, Nat.testBit_two_pow]
  by_cases e : n = i
  · subst e
    rw [Nat.testBit_two_pow_add_eq, Nat.testBit_lt_two_pow h]
    simp
  · rcases Nat.lt_or_gt_of_ne e with l | l
    · have hx : x.testBit i = false := Nat.testBit_lt_two_pow (Nat.lt_of_lt_of_le h (Nat.pow_le_pow_right (by omega) (by omega)))
      have hy : (2 ^ n + x).testBit i = false := Nat.testBit_lt_two_pow (by
        have : 2 ^ (n + 1) ≤ 2 ^ i := Nat.pow_le_pow_right (by omega) (by omega)
        have : 2 ^ (n + 1) = 2 ^ n + 2 ^ n := by rw [Nat.pow_succ]; omega
        omega)
      have hd : decide (n = i) = false := decide_eq_false e
      rw [hx, hy, hd]; rfl
    · have hd : decide (n = i) = false := decide_eq_false e
      rw [Nat.testBit_two_pow_add_gt l, hd]
      simp

theorem flip_word (f : Format) (neg : Bool) (rung : Nat) (h : rung < f.signWeight) : f.word neg rung ^^^ 2 ^ (f.exponentBits + f.fractionBits) = f.word (!neg) rung := by
  have e := xor_pow (f.exponentBits + f.fractionBits) rung h
  cases neg with
  | false => exact e
  | true =>
    show (2 ^ (f.exponentBits + f.fractionBits) + rung) ^^^ 2 ^ (f.exponentBits + f.fractionBits) = rung
    rw [← e, Nat.xor_assoc, Nat.xor_self, Nat.xor_zero]

theorem cut_exact (neg : Bool) (m k : Nat) (hm : m ≠ 0) : Toward.even.cut neg (m * 2 ^ k) k = m := by
  have hM : m * 2 ^ k ≠ 0 := Nat.mul_ne_zero hm (Nat.ne_of_gt (Nat.two_pow_pos k))
  have hk : k ≤ (m * 2 ^ k).log2 := by
    rw [Nat.le_log2 hM]
    exact Nat.le_mul_of_pos_left _ (Nat.pos_of_ne_zero hm)
  have hmin : min k ((m * 2 ^ k).log2 + 2) = k := Nat.min_eq_left (by omega)
  unfold Toward.cut
  simp only [hmin, Nat.one_shiftLeft]
  rw [Nat.mul_div_cancel _ (Nat.two_pow_pos k), Nat.mul_mod_left]
  have h2 : 0 < 2 ^ k := Nat.two_pow_pos k
  have hb : (2 ^ k == 2 * 0) = false := by simp
  simp

theorem nearest_exact (f : Format) (neg : Bool) (m k : Nat) (hm : m ≠ 0) (h : (m < f.binade ∧ k = 0) ∨ (f.binade ≤ m ∧ m < 2 * f.binade)) (hr : k * f.binade + m ≤ f.infRung) :
    f.nearest neg (m * 2 ^ k) f.leastPlace = f.word neg (k * f.binade + m) := by
  have hM : m * 2 ^ k ≠ 0 := Nat.mul_ne_zero hm (Nat.ne_of_gt (Nat.two_pow_pos k))
  have hlast : max (f.leastPlace + ((m * 2 ^ k).log2 : Nat) - f.fractionBits) f.leastPlace = f.leastPlace + (k : Int) := by
    rcases h with ⟨h1, rfl⟩ | ⟨h1, h2⟩
    · have hl : (m * 2 ^ 0).log2 < f.fractionBits := by
        rw [Nat.log2_lt (by simpa using hm)]
        simpa [Format.binade] using h1
      omega
    · have hl : (m * 2 ^ k).log2 = f.fractionBits + k := by
        rw [Nat.log2_eq_iff hM]
        unfold Format.binade at h1 h2
        refine ⟨?_, ?_⟩
        · rw [Nat.pow_add]; exact Nat.mul_le_mul_right _ h1
        · have e : 2 ^ (f.fractionBits + k + 1) = 2 * 2 ^ f.fractionBits * 2 ^ k := by rw [Nat.pow_succ, Nat.pow_add, Nat.mul_comm, Nat.mul_assoc]
          rw [e]
          exact (Nat.mul_lt_mul_right (Nat.two_pow_pos k)).2 h2
      rw [hl]
      omega
  unfold Format.nearest
  rw [if_neg hM]
  simp only [hlast]
  have e1 : (f.leastPlace - (f.leastPlace + (k : Int))).toNat = 0 := by omega
  have e2 : (f.leastPlace + (k : Int) - f.leastPlace).toNat = k := by omega
  rw [e1, e2, Nat.shiftLeft_zero, cut_exact neg m k hm, Nat.min_eq_left hr]
end Go.Proofs.YtjkhjidpiaepeaaFmt
