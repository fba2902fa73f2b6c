/-
  'zzs3400bcheck' where no high bit is set.
-/
import Derived.Test.YbulkbrjuRow
import Derived.Deep.CutRange
namespace Go.Proofs.Ybulkbrju
open Go.RowKit

set_option maxHeartbeats 1000000 in
/-- More than 1024 counts: true at once. -/
theorem check_big (a0 : Option Addr) (len cap : Nat) (v T h8 : Int) (b : Bool) (w : World) (hl : len ≤ 9223372036854775807) (h24 : 1024 < len) :
    Calls Yba.prog 15 #[.slice a0 len cap, .int .u8 v, .int .i64 T, .bool b, .int .u8 h8] w fun e w' => e = .returned (.bool true) ∧ Below w.heap.size w w' := by
  go_enter Yba.func15, Yba.ntmps15
  go_wp2_with fail
  go_ret
  exact ⟨rfl, Below.refl _ _⟩

set_option maxRecDepth 100000 in
set_option maxHeartbeats 1000000 in
theorem check_F (a0 : Option Addr) (len cap v : Nat) (T h8 : Int) (z : List Int) (w : World) (hC : Came w a0 len cap z) (hv : v ≤ 255) (h24 : len ≤ 1024) :
    Calls Yba.prog 15 #[.slice a0 len cap, .int .u8 v, .int .i64 T, .bool false, .int .u8 h8] w fun e w' => e = .returned (.bool true) ∧ Below w.heap.size w w' := by
  have hlc := hC.le
  obtain ⟨i, hi, hz0, hz1, hz2⟩ := info_parts Yba.info42
  obtain ⟨W, hW⟩ : ∃ W, W = 1 + v % 4 := ⟨_, rfl⟩
  obtain ⟨N, hN⟩ : ∃ N, N = len / W := ⟨_, rfl⟩
  obtain ⟨L, hL⟩ : ∃ L, L = N * W := ⟨_, rfl⟩
  have W0 : 0 < W := by omega
  have W4 : W ≤ 4 := by omega
  have N4 : N ≤ 1024 := by rw [hN]; exact Nat.le_trans (Nat.div_le_self _ _) h24
  have Ll : L ≤ len := by rw [hL, hN]; exact Nat.div_mul_le_self _ _
  have eW : 1 + (v : Int) % 4 = (W : Int) := by omega
  have eN : (len : Int) / (W : Int) = (N : Int) := by rw [hN]; rfl
  have eL : (N : Int) * (W : Int) = (L : Int) := by rw [hL]; simp
  have eW0 : ((W : Int) == 0) = false := beq_eq_false_iff_ne.2 (by omega)
  have HL : Hid (L = N * W) := hL
  clear hW hN hL
  obtain ⟨X, hX⟩ : ∃ X, X = z.take L := ⟨_, rfl⟩
  have Xl : X.length = L := by rw [hX, List.length_take, hC.size]; omega
  have HXc : Hid (0 < L → ∃ x, a0 = some x ∧ ∀ j v, (wcells X)[j]? = some v → w.cell? (x.add j) = some v) := came_src hC Ll hX
  obtain ⟨cs, hcs⟩ : ∃ cs, cs = wcells X := ⟨_, rfl⟩
  have csl : cs.length ≤ L ∧ L ≤ cs.length := by rw [hcs, wcells, List.length_map, Xl]; exact ⟨Nat.le_refl _, Nat.le_refl _⟩
  have HCS : Hid (cs = wcells X) := hcs
  have HXl : Hid (X.length = L) := Xl
  clear hX hcs Xl hC
  obtain ⟨zs, hzs⟩ : ∃ zs, zs = wcells (List.replicate L 0) := ⟨_, rfl⟩
  have HZ : Hid (zs = wcells (List.replicate L 0)) := hzs
  have zsl : zs.length = L := by rw [hzs]; simp [wcells]
  have HZl : Hid (zs.length = L) := zsl
  clear hzs zsl
  go_enter Yba.func15, Yba.ntmps15
  go_wp2_with (first
    | (at_make; refine wpList_make_full _ rfl _ _ 39 rfl w.heap.size 42 i (.int .u64 0) 1 Yba.underlying39 hi hz0 hz1 _ _ _ _ L rfl rfl rfl rfl (by rw [hz2]; omega) (by unfold maxLen; omega) (Nat.le_refl _) ?_; intro w1 hown1 hgrow1; have hr1 : RowAt w1 w.heap.size (List.replicate L 0) := RowAt.of_owns (by rw [← made_wcells]; exact hown1); have hR1 : Hid (w1.heap[w.heap.size]? = some (.cells zs.toArray 42 (0, 0))) := (by rw [HZ.out]; exact hr1); have hB1 : Below w.heap.size w w1 := (Below.refl _ w).grown hgrow1 (Nat.le_refl _) (fun k hk => by cases hk); clear hown1 hgrow1 hr1)
    | (refine wpList_copy_splice rfl (.tmp 36) (.tmp 41) 39 39 rfl 42 Yba.underlying39 Yba.size42 _ _ _ _ _ _ rfl rfl w.heap.size 0 zs 42 hR1.out cs (show cs.length = min L L by omega) (fun h0 => by obtain ⟨x, hx, hs⟩ := HXc.out (by omega); exact ⟨rfl, x, hx, fun j v hj => cell_kept hB1 (hs j v (by rw [← HCS.out]; exact hj))⟩) (by have := HZl.out; omega) (by rw [HCS.out]; exact wcells_one _) w.heap.size w hB1 (Nat.le_refl _) ?_))
  intro w2 hR2 hB2
  have r2 : RowAt w2 w.heap.size X := by
    have h := hR2.out
    rw [HZ.out, HCS.out] at h
    exact RowAt.spliced h (by rw [HXl.out, List.length_replicate])
  have s2 := r2.lt
  clear hR2 hR1 hB1 HXc
  go_wp2_with (first
    | (at_make; refine wpList_make_full _ rfl _ _ 39 rfl w2.heap.size 42 i (.int .u64 0) 1 Yba.underlying39 hi hz0 hz1 _ _ _ _ L rfl rfl rfl rfl (by rw [hz2]; omega) (by unfold maxLen; omega) (Nat.le_refl _) ?_; intro w3 hown3 hgrow3)
    | (refine wpList_copy_splice rfl (.tmp 63) (.tmp 64) 39 39 rfl 42 Yba.underlying39 Yba.size42 _ _ _ _ _ _ rfl rfl w2.heap.size 0 zs 42 (by rw [HZ.out]; exact RowAt.of_owns (by rw [← made_wcells]; exact hown3)) cs (show cs.length = min L L by omega) (fun _ => ⟨rfl, ⟨w.heap.size, 0, none⟩, rfl, fun j v hj => row_src (r2.grown hgrow3) j v (by rw [← HCS.out]; exact hj)⟩) (by have := HZl.out; omega) (by rw [HCS.out]; exact wcells_one _) w2.heap.size w3 (Below.refl _ _) (Nat.le_refl _) ?_; intro w4 hR4 hB4))
  have r4c : RowAt w4 w.heap.size X := (r2.grown hgrow3).below hB4 s2
  have r4s : RowAt w4 w2.heap.size X := by
    have h := hR4.out
    rw [HZ.out, HCS.out] at h
    exact RowAt.spliced h (by rw [HXl.out, List.length_replicate])
  have hBw4 : Below w.heap.size w w4 := (hB2.grown hgrow3 (by omega) (fun k hk => by cases hk)).trans (hB4.mono (by omega))
  obtain ⟨f, hf⟩ : ∃ f : Nat → Int, f = fun j => X.getD j 0 := ⟨_, rfl⟩
  have S := widthOfSums_any w4.heap.size w.heap.size N W L f T (w4.alloc (.cells #[.int .i64 N, .int .i64 1, .int .i64 W, .slice none 0 0, .slice (some ⟨w.heap.size, 0, none⟩) L L] 58))
    (by simp) (by simp) (by simp) (fun j hj => by rw [hf]; exact (r4c.alloc _).cell j (by rw [HXl.out]; exact hj)) W0 W4 N4 HL.out
  refine S.mono ?_
  rintro e w5 ⟨rfl, q, hq⟩
  have hB5 : Below w.heap.size w w5 := by rw [hq]; exact below_drewN (hBw4.alloc hBw4.size _) q
  have k0 : w5.cell? ⟨w4.heap.size, 0, none⟩ = some (.int .i64 N) := by rw [hq]; simp
  have k2 : w5.cell? ⟨w4.heap.size, 2, none⟩ = some (.int .i64 W) := by rw [hq]; simp
  have k4 : w5.cell? ⟨w4.heap.size, 4, none⟩ = some (.slice (some ⟨w.heap.size, 0, none⟩) L L) := by rw [hq]; simp
  have kc : ∀ j, j < L → w5.cell? ⟨w.heap.size, j, none⟩ = some (.int .u64 (f j)) := fun j hj => by rw [hq, hf]; exact ((r4c.alloc _).drewN q).cell j (by rw [HXl.out]; exact hj)
  have ks : ∀ j, j < L → w5.cell? ⟨w2.heap.size, j, none⟩ = some (.int .u64 (f j)) := fun j hj => by rw [hq, hf]; exact ((r4s.alloc _).drewN q).cell j (by rw [HXl.out]; exact hj)
  have KC : Hid (∀ j, j < L → w5.cell? ⟨w.heap.size, j, none⟩ = some (.int .u64 (f j))) := kc
  have KS : Hid (∀ j, j < L → w5.cell? ⟨w2.heap.size, j, none⟩ = some (.int .u64 (f j))) := ks
  have L4 : L ≤ 4096 := by omega
  clear S hq hf kc ks r4c r4s hBw4 hB4 hR4 r2 s2 hB2 hgrow3 hown3 HZ HZl HCS HXl csl
  go_wp2
  go_loop [17, 18] (fun t i => ∃ d : Nat, d ≤ N ∧ i = .int .i64 d ∧ t = .int .u64 (topTo f W d)) (fun _ i => N - (intOf i).toNat)
  case atStart => exact ⟨0, by omega, rfl, rfl⟩
  case round =>
    obtain ⟨d, hd, rfl, rfl⟩ := hrel
    by_cases hlt : d < N
    · obtain ⟨A, hA⟩ : ∃ A, A = d * W := ⟨_, rfl⟩
      have hAL : A + W ≤ L := by
        rw [HL.out, hA, ← Nat.succ_mul]
        exact Nat.mul_le_mul_right _ hlt
      have hcell : w5.cell? ⟨w2.heap.size, A + (W - 1), none⟩ = some (.int .u64 (f (A + (W - 1)))) := KS.out _ (by omega)
      have eA : (d : Int) * (W : Int) = (A : Int) := by rw [hA]; simp
      have HA : Hid (A = d * W) := hA
      clear hA
      have e5 : ((A : Int) + (W : Int) - 1).toNat = A + (W - 1) := by omega
      go_wp2
      go_round
      case rel => exact ⟨d + 1, by omega, by go_num, by rw [HA.out]; rfl⟩
      case measure => simp [intOf]; omega
    · obtain rfl : d = N := by omega
      obtain ⟨t0, t1⟩ := topTo_word f W d
      obtain ⟨u0, u1⟩ := wrap_word T
      have l1 := fun w => blen_any (topTo f W d) w t0 t1
      have l2 := fun w => blen_any (IntKind.u64.wrap T) w u0 u1
      have m1 := bitLen_max (topTo f W d).toNat (by omega)
      have m2 := bitLen_max (IntKind.u64.wrap T).toNat (by omega)
      have hwd : wide W (topTo f W d) (IntKind.u64.wrap T) = if 64 < Lib.bitLen (topTo f W d).toNat + Lib.bitLen (IntKind.u64.wrap T).toNat then (W : Int) + 1 else (W : Int) := rfl
      generalize Lib.bitLen (topTo f W d).toNat = a at l1 m1 hwd
      generalize Lib.bitLen (IntKind.u64.wrap T).toNat = b at l2 m2 hwd
      have L1 : Hid (∀ w, Calls Yba.prog 23 #[.int .u64 (topTo f W d)] w fun e w' => e = .returned (.int .i64 a) ∧ w' = w) := l1
      have L2 : Hid (∀ w, Calls Yba.prog 23 #[.int .u64 (IntKind.u64.wrap T)] w fun e w' => e = .returned (.int .i64 b) ∧ w' = w) := l2
      clear l1 l2 t0 t1 u0 u1
      rcases (show 64 < a + b ∨ a + b ≤ 64 from by omega) with hab | hab
      all_goals
        have hI : ((64 : Int) < (a : Int) + (b : Int)) ↔ 64 < a + b := by omega
        first | rw [if_pos hab] at hwd | rw [if_neg (by omega)] at hwd
        go_wp2_with fail
        refine (L1.out _).mono ?_
        rintro e w6 ⟨rfl, h6⟩
        have h6' := h6.symm
        clear h6
        subst h6'
        go_wp2_with fail
        refine (L2.out _).mono ?_
        rintro e w6 ⟨rfl, h6⟩
        have h6' := h6.symm
        clear h6
        subst h6'
        go_wp2
        clear k0 k2 L1 L2 hwd hI hab m1 m2
        go_loopw [20] (fun i wr => ∃ j q : Nat, j ≤ L ∧ i = .int .i64 j ∧ Hid (wr = w5.drewN q)) (fun i _ => L - (intOf i).toNat)
        case atStart => exact ⟨0, 0, by omega, rfl, (rfl : w5 = w5)⟩
        case round =>
          obtain ⟨j, q, hj, rfl, hq⟩ := hrel
          by_cases hjL : j < L
          · have g4 : wr.cell? ⟨w4.heap.size, 4, none⟩ = some (.slice (some ⟨w.heap.size, 0, none⟩) L L) := by rw [hq.out]; simpa using k4
            have gc : wr.cell? ⟨w.heap.size, j, none⟩ = some (.int .u64 (f j)) := by rw [hq.out]; simpa using KC.out j hjL
            have gs : wr.cell? ⟨w2.heap.size, j, none⟩ = some (.int .u64 (f j)) := by rw [hq.out]; simpa using KS.out j hjL
            have qj : (j : Int) < (L : Int) := by omega
            clear k4
            go_wp2
            go_quiet (fail)
            go_wp2
            go_roundw
            case rel => exact ⟨j + 1, q + nq, by omega, by go_num, (by rw [hq.out, World.drewN_drewN] : wr.drewN nq = w5.drewN (q + nq))⟩
            case measure => simp [intOf]; omega
          · obtain rfl : j = L := by omega
            go_wp2
            go_ret
            exact ⟨rfl, by rw [hq.out]; exact below_drewN hB5 q⟩

end Go.Proofs.Ybulkbrju
