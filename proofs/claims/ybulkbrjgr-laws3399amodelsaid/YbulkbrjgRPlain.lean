/-
  The plain side: the words that a message is cut into, and what both functions come to.
-/
import Derived.Test.YbulkbrjgRRound
import Derived.Lib.Endian
import Derived.Lib.EndianBits
namespace Go.Proofs.YbulkbrjgR
open Go.RowKit

/-- After k words of p. -/
def absorb (p : List UInt8) (s : Sip) : Nat → Sip
  | 0 => s
  | k + 1 => comp (Lib.leNat ((p.drop (8 * k)).take 8)) (absorb p s k)
theorem ok_absorb (p : List UInt8) (s : Sip) (hs : s.Ok) : ∀ k, (absorb p s k).Ok
  | 0 => hs
  | _ + 1 => ok_comp _ _
def start (k0 k1 : Int) : Sip := ⟨xo k0 8317987319222330741, xo k1 7237128888997146477, xo k0 7816392313619706465, xo k1 8387220255154660723⟩
theorem ok_start (k0 k1 : Int) : (start k0 k1).Ok := ⟨word_xo _ _, word_xo _ _, word_xo _ _, word_xo _ _⟩

/-- The rounds at the end. -/
def rounds (s : Sip) : Nat → Sip
  | 0 => s
  | k + 1 => turned (rounds s k)
theorem ok_rounds (s : Sip) (hs : s.Ok) : ∀ k, (rounds s k).Ok
  | 0 => hs
  | _ + 1 => ok_turned _
def marked (s : Sip) : Sip := { s with v2 := xo s.v2 255 }
theorem ok_marked (s : Sip) (hs : s.Ok) : (marked s).Ok := ⟨hs.h0, hs.h1, word_xo _ _, hs.h3⟩
def folded (s : Sip) : Int := xo (xo (xo s.v0 s.v1) s.v2) s.v3

/-- The message with its zeros and the low byte of its length. -/
def pad (l : List UInt8) : List UInt8 := l ++ (List.replicate (7 - l.length % 8) 0 ++ [l.length.toUInt8])

/-- What both come to. -/
def hash (k0 k1 : Int) (l : List UInt8) : Int := folded (rounds (marked (absorb (pad l) (start k0 k1) (l.length / 8 + 1))) 3)

theorem pad_length (l : List UInt8) : (pad l).length = 8 * (l.length / 8 + 1) := by
  simp [pad]; omega

/-! ### The number that bytes spell -/
theorem leNat_append (a b : List UInt8) : Lib.leNat (a ++ b) = Lib.leNat a + 256 ^ a.length * Lib.leNat b := by
  induction a with
  | nil => simp [Lib.leNat]
  | cons c r ih =>
    simp only [List.cons_append, Lib.leNat, ih, List.length_cons]
    rw [Nat.pow_succ, Nat.mul_comm (256 ^ r.length) 256, Nat.mul_add, Nat.mul_assoc, Nat.add_assoc]
theorem leNat_zeros (n : Nat) : Lib.leNat (List.replicate n 0) = 0 := by
  induction n with
  | zero => rfl
  | succ n ih => simp [List.replicate_succ, Lib.leNat, ih]
theorem leNat_lt (l : List UInt8) : Lib.leNat l < 256 ^ l.length := by
  induction l with
  | nil => simp [Lib.leNat]
  | cons c r ih =>
    have := c.toNat_lt
    simp only [Lib.leNat, List.length_cons, Nat.pow_succ]
    omega
theorem word_le (l : List UInt8) (h : l.length ≤ 8) : Word ((Lib.leNat l : Nat) : Int) := by
  have h1 := leNat_lt l
  have h2 : 256 ^ l.length ≤ 256 ^ 8 := Nat.pow_le_pow_right (by omega) h
  exact ⟨by omega, by omega⟩

theorem eight (b0 b1 b2 b3 b4 b5 b6 b7 : UInt8) : ((Lib.leNat [b0, b1, b2, b3, b4, b5, b6, b7] : Nat) : Int) = (b0.toNat : Int) + (b1.toNat : Int) * 256 + (b2.toNat : Int) * 65536 + (b3.toNat : Int) * 16777216 + (b4.toNat : Int) * 4294967296 + (b5.toNat : Int) * 1099511627776 + (b6.toNat : Int) * 281474976710656 + (b7.toNat : Int) * 72057594037927936 := by
  simp only [Lib.leNat]
  omega

/-- The word as 'sipHash13' writes it. -/
theorem spelt (b0 b1 b2 b3 b4 b5 b6 b7 : UInt8) :
    (bits BinOp.or IntKind.u64
        (bits BinOp.or IntKind.u64
          (bits BinOp.or IntKind.u64
            (bits BinOp.or IntKind.u64
              (bits BinOp.or IntKind.u64
                (bits BinOp.or IntKind.u64
                  (bits BinOp.or IntKind.u64 (IntKind.u64.wrap ↑b0.toNat)
                    (IntKind.u64.wrap (IntKind.u64.wrap ↑b1.toNat * 256)))
                  (IntKind.u64.wrap (IntKind.u64.wrap ↑b2.toNat * 65536)))
                (IntKind.u64.wrap (IntKind.u64.wrap ↑b3.toNat * 16777216)))
              (IntKind.u64.wrap (IntKind.u64.wrap ↑b4.toNat * 4294967296)))
            (IntKind.u64.wrap (IntKind.u64.wrap ↑b5.toNat * 1099511627776)))
          (IntKind.u64.wrap (IntKind.u64.wrap ↑b6.toNat * 281474976710656)))
        (IntKind.u64.wrap (IntKind.u64.wrap ↑b7.toNat * 72057594037927936))) = ((Lib.leNat [b0, b1, b2, b3, b4, b5, b6, b7] : Nat) : Int) := by
  have h0 : b0.toNat < 256 := b0.toNat_lt
  have h1 : b1.toNat < 256 := b1.toNat_lt
  have h2 : b2.toNat < 256 := b2.toNat_lt
  have h3 : b3.toNat < 256 := b3.toNat_lt
  have h4 : b4.toNat < 256 := b4.toNat_lt
  have h5 : b5.toNat < 256 := b5.toNat_lt
  have h6 : b6.toNat < 256 := b6.toNat_lt
  have h7 : b7.toNat < 256 := b7.toNat_lt
  rw [eight]
  simp (disch := omega) only [u64_wrap_id, u64_or8, u64_or16, u64_or24, u64_or32, u64_or40, u64_or48, u64_or56]

theorem list_length (x : ByteArray) : x.data.toList.length = x.size := by rw [Array.length_toList]; rfl
theorem take8 (x : ByteArray) (h : 8 ≤ x.size) : x.data.toList.take 8 = [x[0], x[1], x[2], x[3], x[4], x[5], x[6], x[7]] := by
  have hl := list_length x
  apply List.ext_getElem
  · simp; omega
  · intro i h1 h2
    have : i < 8 := by simp at h2; omega
    rw [List.getElem_take]
    rcases (show i = 0 ∨ i = 1 ∨ i = 2 ∨ i = 3 ∨ i = 4 ∨ i = 5 ∨ i = 6 ∨ i = 7 from by omega) with rfl | rfl | rfl | rfl | rfl | rfl | rfl | rfl <;> rfl

theorem extract_list (x : ByteArray) (n : Nat) : (x.extract n x.size).data.toList = x.data.toList.drop n := by
  rw [ByteArray.data_extract, Array.toList_extract, List.extract_eq_take_drop]
  exact List.take_of_length_le (by rw [List.length_drop, list_length]; exact Nat.le_refl _)

/-- One round of the first loop. -/
theorem absorb_step (l : List UInt8) (s : Sip) (k : Nat) (x : ByteArray) (h : 8 ≤ x.size) (hx : x.data.toList = l.drop (8 * k)) (m : Int)
    (hm : m = ((Lib.leNat [x[0], x[1], x[2], x[3], x[4], x[5], x[6], x[7]] : Nat) : Int)) : comp m (absorb l s k) = absorb l s (k + 1) := by
  subst hm
  rw [← take8 x h, hx]
  rfl

/-- The words of the padded message are those of the message, as far as that reaches. -/
theorem absorb_pad (l : List UInt8) (s : Sip) : ∀ k, 8 * k ≤ l.length → absorb (pad l) s k = absorb l s k
  | 0, _ => rfl
  | k + 1, h => by
    have ih := absorb_pad l s k (by omega)
    have e : (List.drop (8 * k) (pad l)).take 8 = (l.drop (8 * k)).take 8 := by
      unfold pad
      rw [List.drop_append_of_le_length (by omega), List.take_append_of_le_length (by simp; omega)]
    simp only [absorb, ih, e]

theorem nat_or (A L b j : Nat) (hL : L < 2 ^ j) (hb : b < 256) (hj : j + 8 ≤ 56) : (A * 72057594037927936 + L) ||| (b * 2 ^ j) = A * 72057594037927936 + (L + b * 2 ^ j) := by
  have e56 : (72057594037927936 : Nat) = 2 ^ 56 := rfl
  have hL' : L < 2 ^ 56 := Nat.lt_of_lt_of_le hL (Nat.pow_le_pow_right (by omega) (by omega))
  have hb' : b * 2 ^ j + L < 2 ^ 56 := by
    have h1 : b * 2 ^ j + L < (b + 1) * 2 ^ j := by rw [Nat.add_mul]; omega
    have h2 : (b + 1) * 2 ^ j ≤ 2 ^ 8 * 2 ^ j := Nat.mul_le_mul_right _ (by omega)
    have h3 : 2 ^ 8 * 2 ^ j ≤ 2 ^ 56 := by rw [← Nat.pow_add]; exact Nat.pow_le_pow_right (by omega) (by omega)
    omega
  rw [e56, Nat.mul_comm A, Nat.mul_comm b, Nat.two_pow_add_eq_or_of_lt hL', Nat.add_comm L, Nat.two_pow_add_eq_or_of_lt (by rw [Nat.mul_comm]; exact hb'), Nat.two_pow_add_eq_or_of_lt hL, Nat.or_assoc, Nat.or_comm L]

/-- What 'last' holds after j bytes. -/
def lastTo (n : Nat) (l : List UInt8) (j : Nat) : Int := ((n % 256 * 72057594037927936 + Lib.leNat (l.take j) : Nat) : Int)

theorem lastTo_zero (n : Nat) (l : List UInt8) : IntKind.u64.wrap ((n : Int) * 72057594037927936) = lastTo n l 0 := by
  rw [IntKind.wrap_u64, lastTo]
  simp only [List.take_zero, Lib.leNat]
  omega

theorem word_last (n : Nat) (l : List UInt8) (j : Nat) (h : j ≤ 7) : Word (lastTo n l j) := by
  have h1 := leNat_lt (l.take j)
  have h2 : 256 ^ (l.take j).length ≤ 256 ^ 7 := Nat.pow_le_pow_right (by omega) (by have := List.length_take_le j l; omega)
  unfold lastTo
  exact ⟨by omega, by omega⟩

theorem last_step (n : Nat) (l : List UInt8) (j : Nat) (hj : j < 7) (hl : j < l.length) (m : Int) (hm : m = ((l[j].toNat * 2 ^ (8 * j) : Nat) : Int)) :
    bits .or .u64 (lastTo n l j) m = lastTo n l (j + 1) := by
  subst hm
  have hb : l[j].toNat < 256 := l[j].toNat_lt
  have h1 := leNat_lt (l.take j)
  rw [List.length_take, show min j l.length = j from by omega, show (256 : Nat) = 2 ^ 8 from rfl, ← Nat.pow_mul] at h1
  have h2 : Lib.leNat (l.take (j + 1)) = Lib.leNat (l.take j) + l[j].toNat * 2 ^ (8 * j) := by
    rw [List.take_succ_eq_append_getElem hl, leNat_append, List.length_take, show min j l.length = j from by omega, show (256 : Nat) = 2 ^ 8 from rfl, ← Nat.pow_mul, Nat.mul_comm]
    simp [Lib.leNat]
  have h3 : 2 ^ (8 * j) ≤ 2 ^ 48 := Nat.pow_le_pow_right (by omega) (by omega)
  have h4 : l[j].toNat * 2 ^ (8 * j) ≤ 255 * 2 ^ (8 * j) := Nat.mul_le_mul_right _ (by omega)
  have h5 := nat_or (n % 256) (Lib.leNat (l.take j)) l[j].toNat (8 * j) h1 hb (by omega)
  unfold lastTo
  rw [(bits_nat .u64 64 (by decide) wraps_u64 _ _ (by omega) (by omega)).2, h5, h2]

theorem absorb_last (l : List UInt8) (s : Sip) (k : Nat) (r : List UInt8) (hr : r = l.drop (8 * k)) (h8 : r.length < 8) (hk : 8 * k + r.length = l.length) :
    comp (lastTo l.length r r.length) (absorb l s k) = absorb (pad l) s (l.length / 8 + 1) := by
  have ek : l.length / 8 = k := by omega
  rw [ek]
  have e : (List.drop (8 * k) (pad l)).take 8 = r ++ (List.replicate (7 - r.length) 0 ++ [l.length.toUInt8]) := by
    unfold pad
    rw [List.drop_append_of_le_length (by omega), ← hr, show l.length % 8 = r.length from by omega, List.take_of_length_le (by simp; omega)]
  have e2 : ((Lib.leNat (r ++ (List.replicate (7 - r.length) 0 ++ [l.length.toUInt8])) : Nat) : Int) = lastTo l.length r r.length := by
    rw [leNat_append, leNat_append, leNat_zeros]
    simp only [Lib.leNat, lastTo, List.take_length, List.length_replicate, Nat.mul_zero, Nat.add_zero, Nat.zero_add]
    rw [← Nat.mul_assoc, ← Nat.pow_add, show r.length + (7 - r.length) = 7 from by omega]
    simp [Nat.toUInt8, UInt8.toNat_ofNat']
    omega
  simp only [absorb, absorb_pad l s k (by omega), e, e2]

end Go.Proofs.YbulkbrjgR
