/-
  The bit lengths: math/bits.Len64 and Len (the shelf's template, laid for this program) and the law's own 'zzs3400blen'.
-/
import Derived.Test.YbulkbrjuRows
import Derived.WalkKit
import Derived.WalkSpells
import Derived.Below
import Derived.Lib.BitFns
namespace Go.Proofs.Ybulkbrju
open Go.RowKit

theorem tab_at (n : Nat) (h : n < 256) (h' : n < Lib.len8tab.size) : (Lib.len8tab[n]'h').toNat = Lib.bitLen n := by
  have e := Lib.len8_eq ⟨n, h⟩
  simp only [Lib.len8, Int.toNat_natCast, ByteArray.getElem?_lt' _ _ h', Option.getD_some] at e
  omega
theorem wrap64_small (n : Int) (h0 : 0 ≤ n) (h1 : n ≤ 1000) : wrap64 n = n := by
  unfold wrap64
  omega
/-- One way through Len64: s halvings in one go, then the table. -/
theorem way (x : Nat) (s D : Nat) (y : Int) (hs : s ≤ 56) (hy : y.toNat = x / D) (hb : Lib.bitLen x = s + Lib.bitLen (x / D)) (hl : x / D < 256) (h' : y.toNat < Lib.len8tab.size) :
    wrap64 ((s : Int) + wrap64 ((Lib.len8tab[y.toNat]'h').toNat : Int)) = (Lib.bitLen x : Int) := by
  have e := tab_at y.toNat (by omega) h'
  have l := Lib.bitLen_le8 ⟨x / D, hl⟩
  simp only at l
  rw [e, hy, wrap64_small (Lib.bitLen (x / D)) (by omega) (by omega), wrap64_small _ (by omega) (by omega)]
  omega

set_option maxHeartbeats 4000000 in
set_option maxRecDepth 100000 in
theorem len64_any (x : Int) (w : World) (h0 : 0 ≤ x) (h1 : x ≤ 18446744073709551615) :
    Calls Yba.prog 28 #[.int .u64 x] w fun e w' => e = .returned (.int .i64 (Lib.bitLen x.toNat)) ∧ w' = w := by
  go_enter Yba.func28, Yba.ntmps28
  go_wp2
  all_goals (first | (go_ret; refine ⟨congrArg Ending.returned (congrArg (Value.int IntKind.i64) ?_), rfl⟩) | (exfalso; have hs := Lib.len8tab_size; omega))
  · exact way x.toNat 56 72057594037927936 _ (by omega) (by omega) (Lib.bitLen_shift56 _ (by omega) (by omega)) (by omega) _
  · exact way x.toNat 48 281474976710656 _ (by omega) (by omega) (Lib.bitLen_shift48 _ (by omega) (by omega)) (by omega) _
  · exact way x.toNat 40 1099511627776 _ (by omega) (by omega) (Lib.bitLen_shift40 _ (by omega) (by omega)) (by omega) _
  · exact way x.toNat 32 4294967296 _ (by omega) (by omega) (Lib.bitLen_shift32 _ (by omega) (by omega)) (by omega) _
  · exact way x.toNat 24 16777216 _ (by omega) (by omega) (Lib.bitLen_shift24 _ (by omega) (by omega)) (by omega) _
  · exact way x.toNat 16 65536 _ (by omega) (by omega) (Lib.bitLen_shift16 _ (by omega) (by omega)) (by omega) _
  · exact way x.toNat 8 256 _ (by omega) (by omega) (Lib.bitLen_shift8 _ (by omega) (by omega)) (by omega) _
  · have e := way x.toNat 0 1 x (by omega) (by omega) (by rw [Nat.div_one, Nat.zero_add]) (by omega) (by have hs := Lib.len8tab_size; omega)
    rw [Int.natCast_zero, Int.zero_add] at e
    exact e

theorem len_any (x : Int) (w : World) (h0 : 0 ≤ x) (h1 : x ≤ 18446744073709551615) :
    Calls Yba.prog 29 #[.int .u64 x] w fun e w' => e = .returned (.int .i64 (Lib.bitLen x.toNat)) ∧ w' = w := by
  go_enter Yba.func29, Yba.ntmps29
  go_wp2_with (go_at_call 28; refine (len64_any x _ h0 h1).mono ?_; rintro e w' ⟨rfl, rfl⟩)
  go_ret
  exact ⟨rfl, rfl⟩

theorem bitLen_zero : Lib.bitLen 0 = 0 := by decide +kernel
theorem bitLen_max (x : Nat) (h : x < 18446744073709551616) : Lib.bitLen x ≤ 64 := Lib.bitLen_le x 64 (Nat.le_refl _) h

theorem blen_any (x : Int) (w : World) (h0 : 0 ≤ x) (h1 : x ≤ 18446744073709551615) :
    Calls Yba.prog 23 #[.int .u64 x] w fun e w' => e = .returned (.int .i64 (Lib.bitLen x.toNat)) ∧ w' = w := by
  obtain ⟨n, rfl⟩ := Int.eq_ofNat_of_zero_le h0
  rw [Int.toNat_natCast]
  have hm := bitLen_max n (by omega)
  obtain ⟨B, hB⟩ : ∃ B, B = Lib.bitLen n := ⟨_, rfl⟩
  rw [← hB] at hm ⊢
  have HB : Hid (B = Lib.bitLen n) := hB
  clear hB
  go_enter Yba.func23, Yba.ntmps23
  go_wp2
  go_loop [0, 3] (fun t i => ∃ y k : Nat, y ≤ 18446744073709551615 ∧ k ≤ B ∧ Hid (B = k + Lib.bitLen y) ∧ t = .int .u64 y ∧ i = .int .i64 k) (fun t _ => (intOf t).toNat)
  case atStart => exact ⟨n, 0, by omega, by omega, (by have := HB.out; omega : B = 0 + Lib.bitLen n), rfl, rfl⟩
  case round =>
    obtain ⟨y, k, hy, hk, hH, rfl, rfl⟩ := hrel
    by_cases hz : y = 0
    · subst hz
      obtain rfl : B = k := by have := hH.out; rw [bitLen_zero] at this; omega
      go_wp2
      go_ret
      exact ⟨rfl, rfl⟩
    · have hh := Lib.bitLen_half y hz (by omega)
      have hk1 : k + 1 ≤ B := by have := hH.out; omega
      have HH : Hid (B = (k + 1) + Lib.bitLen (y / 2)) := (by have := hH.out; omega : B = (k + 1) + Lib.bitLen (y / 2))
      clear hh hH
      have hne : ((y : Int) != 0) = true := by rw [bne_iff_ne]; omega
      go_wp2
      go_round
      case rel => exact ⟨y / 2, k + 1, by omega, hk1, HH, by go_num, by go_num⟩
      case measure => simp [intOf]; omega
end Go.Proofs.Ybulkbrju
