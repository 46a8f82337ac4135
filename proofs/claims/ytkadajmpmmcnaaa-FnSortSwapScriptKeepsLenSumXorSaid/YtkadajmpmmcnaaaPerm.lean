/-
  Plain mathematics: exchanging two places of a list keeps its wrapped sum and its xor.
-/
import Derived.Test.YtkadajmpmmcnaaaSort
import Derived.Laws.Bits64
namespace Go.Proofs.Ytkadajmpmmcnaaa
set_option linter.unusedVariables false

def addU (s x : Int) : Int := IntKind.u64.wrap (s + IntKind.u64.wrap x)
def xorU (s x : Int) : Int := bits .xor .u64 s (IntKind.u64.wrap x)

theorem addU_comm (z x y : Int) : addU (addU z x) y = addU (addU z y) x := by
  simp only [addU, IntKind.wrap_u64]; omega

theorem ofInt_back (v : BitVec 64) : BitVec.ofInt 64 (IntKind.u64.wrap (v.toNat : Int)) = v := by
  have h : (v.toNat : Int) % 18446744073709551616 = (v.toNat : Int) := by have := v.isLt; omega
  rw [IntKind.wrap_u64, h, BitVec.ofInt_natCast, BitVec.ofNat_toNat]
  simp

theorem xorU_eq (z x : Int) : xorU z x = IntKind.u64.wrap ((BitVec.ofInt 64 z ^^^ BitVec.ofInt 64 (IntKind.u64.wrap x)).toNat : Int) := rfl

theorem xorU_comm (z x y : Int) : xorU (xorU z x) y = xorU (xorU z y) x := by
  rw [xorU_eq (xorU z x) y, xorU_eq (xorU z y) x, xorU_eq z x, xorU_eq z y, ofInt_back, ofInt_back]
  rw [BitVec.xor_assoc, BitVec.xor_comm (BitVec.ofInt 64 (IntKind.u64.wrap x)), ← BitVec.xor_assoc]

def sumTo (f : Nat → Int) (k : Nat) : Int := ((List.range k).map f).foldl addU 0
def xorTo (f : Nat → Int) (k : Nat) : Int := ((List.range k).map f).foldl xorU 0

theorem sumTo_succ (f : Nat → Int) (k : Nat) : sumTo f (k + 1) = addU (sumTo f k) (f k) := by
  simp [sumTo, List.range_succ, List.foldl_append]
theorem xorTo_succ (f : Nat → Int) (k : Nat) : xorTo f (k + 1) = xorU (xorTo f k) (f k) := by
  simp [xorTo, List.range_succ, List.foldl_append]

/-- The first n values of f are those of g in some order. -/
def Alk (n : Nat) (f g : Nat → Int) : Prop := ((List.range n).map f).Perm ((List.range n).map g)

theorem Alk.refl (n : Nat) (f : Nat → Int) : Alk n f f := List.Perm.refl _
theorem Alk.swp {n : Nat} {f g : Nat → Int} (h : Alk n f g) {i j : Nat} (hi : i < n) (hj : j < n) : Alk n (swp f i j) g := by
  refine List.Perm.trans ?_ h
  have e : (List.range n).map (Ytkadajmpmmcnaaa.swp f i j) = (((List.range n).map f).set i (((List.range n).map f)[j]'(by simpa using hj))).set j (((List.range n).map f)[i]'(by simpa using hi)) := by
    apply List.ext_getElem
    · simp
    · intro k h1 h2
      simp only [List.getElem_map, List.getElem_range, List.getElem_set]
      unfold Ytkadajmpmmcnaaa.swp
      by_cases a : k = j
      · by_cases b : k = i
        · subst a; subst b; simp
        · have a' : j = k := a.symm
          rw [if_pos a', if_neg b, if_pos a]
      · have a' : ¬ j = k := fun e => a e.symm
        by_cases b : k = i
        · have b' : i = k := b.symm
          rw [if_neg a', if_pos b', if_pos b]
        · have b' : ¬ i = k := fun e => b e.symm
          rw [if_neg a', if_neg b', if_neg b, if_neg a]
  rw [e]
  exact List.set_set_perm _ _
theorem Alk.sum {n : Nat} {f g : Nat → Int} (h : Alk n f g) : sumTo f n = sumTo g n :=
  List.Perm.foldl_eq' h (fun x _ y _ z => addU_comm z x y) 0
theorem Alk.xor {n : Nat} {f g : Nat → Int} (h : Alk n f g) : xorTo f n = xorTo g n :=
  List.Perm.foldl_eq' h (fun x _ y _ z => xorU_comm z x y) 0
end Go.Proofs.Ytkadajmpmmcnaaa
