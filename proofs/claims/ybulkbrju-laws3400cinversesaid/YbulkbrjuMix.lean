/-
  The plain side of 'LawS3400CInverse': words of 64 bits.
-/
import Derived.WalkKit
namespace Go.Proofs.Ybulkbrju

/-- A word as the number that the walk shows. -/
def J (v : BitVec 64) : Int := (v.toNat : Int)

theorem wrap_J (n : Int) : IntKind.u64.wrap n = J (BitVec.ofInt 64 n) := by
  unfold J
  rw [BitVec.toNat_ofInt]
  simp only [IntKind.wrap, IntKind.bits, IntKind.signed]
  simp
  omega
theorem J_ofInt (n : Int) (h0 : 0 ≤ n) (h1 : n < 18446744073709551616) : n = J (BitVec.ofInt 64 n) := by
  rw [← wrap_J, IntKind.wrap]
  simp only [IntKind.bits, IntKind.signed]
  simp
  omega
theorem ofInt_J (a : BitVec 64) : BitVec.ofInt 64 (J a) = a := by
  unfold J
  simp
theorem J_add (a : BitVec 64) (n : Int) : IntKind.u64.wrap (J a + n) = J (a + BitVec.ofInt 64 n) := by
  rw [wrap_J, BitVec.ofInt_add, ofInt_J]
theorem J_mul (a : BitVec 64) (n : Int) : IntKind.u64.wrap (J a * n) = J (a * BitVec.ofInt 64 n) := by
  rw [wrap_J, BitVec.ofInt_mul, ofInt_J]
theorem J_sub (a : BitVec 64) (n : Int) : IntKind.u64.wrap (J a - n) = J (a - BitVec.ofInt 64 n) := by
  rw [wrap_J, Int.sub_eq_add_neg, BitVec.ofInt_add, ofInt_J, BitVec.ofInt_neg, ← BitVec.sub_eq_add_neg]
theorem J_xor (a b : BitVec 64) : bits .xor .u64 (J a) (J b) = J (a ^^^ b) := by
  show IntKind.u64.wrap (((BitVec.ofInt 64 (J a)) ^^^ (BitVec.ofInt 64 (J b))).toNat : Int) = _
  rw [ofInt_J, ofInt_J, wrap_J]
  exact congrArg J (ofInt_J _)
theorem J_shr (a : BitVec 64) (n : Nat) (d : Int) (hd : d = ((2 ^ n : Nat) : Int)) : J a / d = J (a >>> n) := by
  subst hd
  unfold J
  rw [BitVec.toNat_ushiftRight, Nat.shiftRight_eq_div_pow]
  rfl

/-- Two shifts undo one: the third would shift all bits out. -/
theorem undo (x : BitVec 64) (n : Nat) (h : 64 ≤ 3 * n) : (x ^^^ x >>> n) ^^^ (x ^^^ x >>> n) >>> n ^^^ (x ^^^ x >>> n) >>> (2 * n) = x := by
  apply BitVec.eq_of_getLsbD_eq
  intro i hi
  have e : x.getLsbD (2 * n + (n + i)) = false := BitVec.getLsbD_of_ge _ _ (by omega)
  have e2 : n + (n + i) = 2 * n + i := by omega
  have e3 : n + (2 * n + i) = 2 * n + (n + i) := by omega
  simp only [BitVec.getLsbD_xor, BitVec.getLsbD_ushiftRight, e2, e3, e]
  cases x.getLsbD i <;> cases x.getLsbD (n + i) <;> cases x.getLsbD (2 * n + i) <;> rfl

theorem unmul (x a b : BitVec 64) (h : a * b = 1#64) : x * a * b = x := by
  rw [BitVec.mul_assoc, h, BitVec.mul_one]

/-- The finalizer of splitmix64. -/
def mix (x : BitVec 64) : BitVec 64 :=
  let a := x + BitVec.ofInt 64 11400714819323198485
  let b := (a ^^^ a >>> 30) * BitVec.ofInt 64 13787848793156543929
  let c := (b ^^^ b >>> 27) * BitVec.ofInt 64 10723151780598845931
  c ^^^ c >>> 31

def back (h : BitVec 64) : BitVec 64 :=
  let c := h ^^^ h >>> 31 ^^^ h >>> 62
  let d := c * BitVec.ofInt 64 3573116690164977347
  let e := d ^^^ d >>> 27 ^^^ d >>> 54
  let f := e * BitVec.ofInt 64 10871156337175269513
  let g := f ^^^ f >>> 30 ^^^ f >>> 60
  g - BitVec.ofInt 64 11400714819323198485

theorem back_mix (x : BitVec 64) : back (mix x) = x := by
  have h1 : BitVec.ofInt 64 10723151780598845931 * BitVec.ofInt 64 3573116690164977347 = 1#64 := by decide +kernel
  have h2 : BitVec.ofInt 64 13787848793156543929 * BitVec.ofInt 64 10871156337175269513 = 1#64 := by decide +kernel
  simp only [back, mix]
  generalize hG : BitVec.ofInt 64 11400714819323198485 = G
  generalize hA : BitVec.ofInt 64 13787848793156543929 = A at h2 ⊢
  generalize hB : BitVec.ofInt 64 10723151780598845931 = B at h1 ⊢
  generalize hA' : BitVec.ofInt 64 10871156337175269513 = A' at h2 ⊢
  generalize hB' : BitVec.ofInt 64 3573116690164977347 = B' at h1 ⊢
  generalize ha : x + G = a
  generalize hb : (a ^^^ a >>> 30) * A = b
  generalize hc : (b ^^^ b >>> 27) * B = c
  rw [undo c 31 (by omega), ← hc, unmul _ _ _ h1, undo b 27 (by omega), ← hb, unmul _ _ _ h2, undo a 30 (by omega), ← ha, BitVec.add_sub_cancel]

/-- Newton's steps. -/
def newt (m : Int) : Nat → Int
  | 0 => m
  | k + 1 => IntKind.u64.wrap (newt m k * IntKind.u64.wrap (2 - IntKind.u64.wrap (m * newt m k)))
theorem newt_one : newt 10723151780598845931 5 = 3573116690164977347 := by decide +kernel
theorem newt_two : newt 13787848793156543929 5 = 10871156337175269513 := by decide +kernel

/-- 'bitHash' in the walk's spelling. -/
def mixZ (i : Int) : Int :=
  bits BinOp.xor IntKind.u64
    (IntKind.u64.wrap
      (bits BinOp.xor IntKind.u64
          (IntKind.u64.wrap
            (bits BinOp.xor IntKind.u64
                (IntKind.u64.wrap (IntKind.u64.wrap i + 11400714819323198485))
                (IntKind.u64.wrap (IntKind.u64.wrap i + 11400714819323198485) / 1073741824) *
              13787848793156543929))
          (IntKind.u64.wrap
              (bits BinOp.xor IntKind.u64
                  (IntKind.u64.wrap (IntKind.u64.wrap i + 11400714819323198485))
                  (IntKind.u64.wrap (IntKind.u64.wrap i + 11400714819323198485) / 1073741824) *
                13787848793156543929) /
            134217728) *
        10723151780598845931))
    (IntKind.u64.wrap
        (bits BinOp.xor IntKind.u64
            (IntKind.u64.wrap
              (bits BinOp.xor IntKind.u64
                  (IntKind.u64.wrap (IntKind.u64.wrap i + 11400714819323198485))
                  (IntKind.u64.wrap (IntKind.u64.wrap i + 11400714819323198485) / 1073741824) *
                13787848793156543929))
            (IntKind.u64.wrap
                (bits BinOp.xor IntKind.u64
                    (IntKind.u64.wrap (IntKind.u64.wrap i + 11400714819323198485))
                    (IntKind.u64.wrap (IntKind.u64.wrap i + 11400714819323198485) / 1073741824) *
                  13787848793156543929) /
              134217728) *
          10723151780598845931) /
      2147483648)
theorem mixZ_eq (i : Int) : mixZ i = J (mix (BitVec.ofInt 64 i)) := by
  unfold mixZ
  rw [wrap_J i]
  generalize BitVec.ofInt 64 i = x
  rw [J_add, J_shr _ 30 1073741824 (by decide), J_xor, J_mul, J_shr _ 27 134217728 (by decide), J_xor, J_mul, J_shr _ 31 2147483648 (by decide), J_xor]
  rfl

/-- The way back in the walk's spelling, three steps. -/
def stepA (h : Int) : Int := IntKind.u64.wrap (bits .xor .u64 (bits .xor .u64 h (h / 2147483648)) (h / 4611686018427387904) * newt 10723151780598845931 5)
def stepB (z : Int) : Int := IntKind.u64.wrap (bits .xor .u64 (bits .xor .u64 z (z / 134217728)) (z / 18014398509481984) * newt 13787848793156543929 5)
def stepC (z : Int) : Int := IntKind.u64.wrap (bits .xor .u64 (bits .xor .u64 z (z / 1073741824)) (z / 1152921504606846976) - 11400714819323198485)
theorem stepA_eq (v : BitVec 64) : stepA (J v) = J ((v ^^^ v >>> 31 ^^^ v >>> 62) * BitVec.ofInt 64 3573116690164977347) := by
  unfold stepA
  rw [newt_one, J_shr _ 31 2147483648 (by decide), J_shr _ 62 4611686018427387904 (by decide), J_xor, J_xor, J_mul]
theorem stepB_eq (v : BitVec 64) : stepB (J v) = J ((v ^^^ v >>> 27 ^^^ v >>> 54) * BitVec.ofInt 64 10871156337175269513) := by
  unfold stepB
  rw [newt_two, J_shr _ 27 134217728 (by decide), J_shr _ 54 18014398509481984 (by decide), J_xor, J_xor, J_mul]
theorem stepC_eq (v : BitVec 64) : stepC (J v) = J ((v ^^^ v >>> 30 ^^^ v >>> 60) - BitVec.ofInt 64 11400714819323198485) := by
  unfold stepC
  rw [J_shr _ 30 1073741824 (by decide), J_shr _ 60 1152921504606846976 (by decide), J_xor, J_xor, J_sub]
theorem back_true (i h : Int) (m : BitVec 64) (hm : mix (BitVec.ofInt 64 i) = m) (hj : J m = h) : (stepC (stepB (stepA h)) == IntKind.u64.wrap i) = true := by
  subst hj hm
  rw [stepA_eq, stepB_eq, stepC_eq, wrap_J i, beq_iff_eq]
  exact congrArg J (back_mix (BitVec.ofInt 64 i))
end Go.Proofs.Ybulkbrju
