/-
  'ways' and 'widthOfSums': they only read: the world is as it was but for draws.
-/
import Derived.Test.YbulkbrjuLens
import Derived.Deep.QuietTactic
import Derived.BigQuiet
namespace Go.Proofs.Ybulkbrju
open Go.RowKit

set_option maxHeartbeats 400000 in
theorem ways_any (gb gc d W L A B : Nat) (w : World)
    (c2 : w.cell? ⟨gb, 2, none⟩ = some (.int .i64 W)) (c4 : w.cell? ⟨gb, 4, none⟩ = some (.slice (some ⟨gc, 0, none⟩) L L))
    (e1 : IntKind.i64.wrap ((d : Int) * (W : Int)) = (A : Int)) (e2 : IntKind.i64.wrap (((d : Int) + 1) * (W : Int)) = (B : Int))
    (hd : d ≤ 5000) (hW : 0 < W) (hB : A + W = B) (hBL : B ≤ L) :
    Calls Yba.prog 27 #[.pointer (some ⟨gb, 0, none⟩), .int .i64 d] w fun e w' => e = .returned (.slice (some ⟨gc, A, none⟩) W (L - A)) ∧ ∃ q, w' = w.drewN q := by
  have e3 : IntKind.i64.wrap ((d : Int) + 1) = (d : Int) + 1 := by rw [IntKind.wrap_i64]; omega
  have q1 : (B : Int) ≤ (L : Int) := by omega
  have q2 : (A : Int) ≤ (B : Int) := by omega
  have q3 : ¬ L = A := by omega
  have hV : W = B - A := by omega
  have HV : Hid (W = B - A) := hV
  clear hV hB
  go_enter Yba.func27, Yba.ntmps27
  go_wp2
  go_quiet (fail)
  go_wp2
  go_ret
  exact ⟨congrArg (fun k => Ending.returned (.slice (some ⟨gc, A, none⟩) k (L - A))) HV.out.symm, _, rfl⟩

/-- The OR of the most significant words of the first d numbers. -/
def topTo (f : Nat → Int) (W : Nat) : Nat → Int
  | 0 => 0
  | d + 1 => bits .or .u64 (topTo f W d) (f (d * W + (W - 1)))
theorem wrap_word (x : Int) : 0 ≤ IntKind.u64.wrap x ∧ IntKind.u64.wrap x ≤ 18446744073709551615 := by
  unfold IntKind.wrap
  simp only [IntKind.signed, IntKind.bits]
  simp
  omega
theorem topTo_word (f : Nat → Int) (W : Nat) : ∀ d, 0 ≤ topTo f W d ∧ topTo f W d ≤ 18446744073709551615
  | 0 => ⟨by simp [topTo], by simp [topTo]⟩
  | _ + 1 => wrap_word _

/-- The width that both sides come to. -/
def wide (W : Nat) (t u : Int) : Int := if 64 < Lib.bitLen t.toNat + Lib.bitLen u.toNat then (W : Int) + 1 else (W : Int)

theorem ret_i64 {a b : Int} (h : a = b) : Ending.returned (.int .i64 a) = .returned (.int .i64 b) := by rw [h]

set_option maxHeartbeats 400000 in
theorem widthOfSums_any (gb gc N W L : Nat) (f : Nat → Int) (T : Int) (w : World)
    (c0 : w.cell? ⟨gb, 0, none⟩ = some (.int .i64 N)) (c2 : w.cell? ⟨gb, 2, none⟩ = some (.int .i64 W)) (c4 : w.cell? ⟨gb, 4, none⟩ = some (.slice (some ⟨gc, 0, none⟩) L L))
    (hc : ∀ j, j < L → w.cell? ⟨gc, j, none⟩ = some (.int .u64 (f j)))
    (hW : 0 < W) (hW4 : W ≤ 4) (hN : N ≤ 1024) (hL : L = N * W) :
    Calls Yba.prog 22 #[.pointer (some ⟨gb, 0, none⟩), .int .i64 T] w fun e w' => e = .returned (.int .i64 (wide W (topTo f W N) (IntKind.u64.wrap T))) ∧ ∃ q, w' = w.drewN q := by
  have HL : Hid (L = N * W) := hL
  have hc' : Hid (∀ j, j < L → w.cell? ⟨gc, j, none⟩ = some (.int .u64 (f j))) := hc
  clear hL hc
  go_enter Yba.func22, Yba.ntmps22
  go_wp2
  go_loopw [5, 11] (fun t i wr => ∃ d q : Nat, d ≤ N ∧ i = .int .i64 d ∧ t = .int .u64 (topTo f W d) ∧ Hid (wr = w.drewN q)) (fun _ i _ => N - (intOf i).toNat)
  case atStart => exact ⟨0, 0, by omega, rfl, rfl, rfl⟩
  case round =>
    obtain ⟨d, q, hd, rfl, rfl, hq⟩ := hrel
    have k2 : wr.cell? ⟨gb, 2, none⟩ = some (.int .i64 W) := by rw [hq.out]; simpa using c2
    have k4 : wr.cell? ⟨gb, 4, none⟩ = some (.slice (some ⟨gc, 0, none⟩) L L) := by rw [hq.out]; simpa using c4
    by_cases hlt : d < N
    · obtain ⟨A, hA⟩ : ∃ A, A = d * W := ⟨_, rfl⟩
      have hAL : A + W ≤ L := by
        rw [HL.out, hA, ← Nat.succ_mul]
        exact Nat.mul_le_mul_right _ hlt
      have hL5 : L ≤ 4096 := by
        rw [HL.out]
        exact Nat.le_trans (Nat.mul_le_mul hN hW4) (by omega)
      have hcell : wr.cell? ⟨gc, A + (W - 1), none⟩ = some (.int .u64 (f (A + (W - 1)))) := by rw [hq.out]; simpa using hc'.out (A + (W - 1)) (by omega)
      have e1 : IntKind.i64.wrap ((d : Int) * (W : Int)) = (A : Int) := by
        rw [← Int.natCast_mul, ← hA, IntKind.wrap_i64]; omega
      have e2 : IntKind.i64.wrap (((d : Int) + 1) * (W : Int)) = ((A + W : Nat) : Int) := by
        rw [show ((d : Int) + 1) = ((d + 1 : Nat) : Int) from by omega, ← Int.natCast_mul, Nat.succ_mul, ← hA, IntKind.wrap_i64]; omega
      have hcall : Hid (∀ n, Calls Yba.prog 27 #[.pointer (some ⟨gb, 0, none⟩), .int .i64 d] (wr.drewN n) fun e w' => e = .returned (.slice (some ⟨gc, A, none⟩) W (L - A)) ∧ ∃ q, w' = (wr.drewN n).drewN q) :=
        fun n => ways_any gb gc d W L A (A + W) (wr.drewN n) (by simpa using k2) (by simpa using k4) e1 e2 (by omega) hW rfl hAL
      have HA : Hid (A = d * W) := hA
      clear hA e1 e2 c0 c2 c4
      have e4 : IntKind.i64.wrap ((W : Int) - 1) = (W : Int) - 1 := by rw [IntKind.wrap_i64]; omega
      have e5 : ((W : Int) - 1).toNat = W - 1 := by omega
      have e6 : 0 ≤ (W : Int) - 1 := by omega
      have e7 : (W : Int) - 1 < (W : Int) := by omega
      go_wp2
      go_quiet ((go_at_call 27; exact Calls.quiet_of (hcall.out _)))
      go_wp2
      go_roundw
      case rel => exact ⟨d + 1, q + nq, by omega, by go_num, by rw [HA.out]; rfl, (by rw [hq.out, World.drewN_drewN] : wr.drewN nq = w.drewN (q + nq))⟩
      case measure => simp [intOf]; omega
    · obtain rfl : d = N := by omega
      obtain ⟨t0, t1⟩ := topTo_word f W d
      obtain ⟨u0, u1⟩ := wrap_word T
      have l1 := len64_any (topTo f W d) wr t0 t1
      have l2 := len_any (IntKind.u64.wrap T) wr u0 u1
      have m1 := bitLen_max (topTo f W d).toNat (by omega)
      have m2 := bitLen_max (IntKind.u64.wrap T).toNat (by omega)
      have hwd : wide W (topTo f W d) (IntKind.u64.wrap T) = if 64 < Lib.bitLen (topTo f W d).toNat + Lib.bitLen (IntKind.u64.wrap T).toNat then (W : Int) + 1 else (W : Int) := rfl
      generalize Lib.bitLen (topTo f W d).toNat = x at l1 m1 hwd
      generalize Lib.bitLen (IntKind.u64.wrap T).toNat = y at l2 m2 hwd
      have HW : Hid (wide W (topTo f W d) (IntKind.u64.wrap T) = if 64 < x + y then (W : Int) + 1 else (W : Int)) := hwd
      clear hwd t0 t1 u0 u1
      by_cases hxy : 64 < x + y
      · have hI : (64 : Int) < (x : Int) + (y : Int) := by omega
        go_wp2_with (first
          | (go_at_call 28; refine l1.mono ?_; rintro e w' ⟨rfl, rfl⟩)
          | (go_at_call 29; refine l2.mono ?_; rintro e w' ⟨rfl, rfl⟩))
        go_ret
        exact ⟨ret_i64 (by rw [HW.out, if_pos hxy]), q, hq.out⟩
      · have hI : ¬ (64 : Int) < (x : Int) + (y : Int) := by omega
        go_wp2_with (first
          | (go_at_call 28; refine l1.mono ?_; rintro e w' ⟨rfl, rfl⟩)
          | (go_at_call 29; refine l2.mono ?_; rintro e w' ⟨rfl, rfl⟩))
        go_ret
        exact ⟨ret_i64 (by rw [HW.out, if_neg hxy]), q, hq.out⟩
end Go.Proofs.Ybulkbrju
