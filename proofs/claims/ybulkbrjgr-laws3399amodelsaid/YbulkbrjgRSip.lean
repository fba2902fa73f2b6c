import Derived.Test.YbulkbrjgRPlain
import Derived.StillTailTactics
namespace Go.Proofs.YbulkbrjgR
open Go.RowKit

def strLen : Value → Nat | .string x => x.size | _ => 0

theorem Four.start (w : World) (k0 k1 : Int) (c : Obj) : Four (w.heap.size + 1) (start k0 k1)
    (((((w.alloc c).alloc (Obj.cells #[Value.int IntKind.u64 (bits BinOp.xor IntKind.u64 k0 8317987319222330741)] 22)).alloc
            (Obj.cells #[Value.int IntKind.u64 (bits BinOp.xor IntKind.u64 k1 7237128888997146477)] 22)).alloc
        (Obj.cells #[Value.int IntKind.u64 (bits BinOp.xor IntKind.u64 k0 7816392313619706465)] 22)).alloc
    (Obj.cells #[Value.int IntKind.u64 (bits BinOp.xor IntKind.u64 k1 8387220255154660723)] 22)) := by
  have n0 : ∀ (v : World) (o : Obj), (v.alloc o).heap[v.heap.size]? = some o := fun v o => by
    show (v.heap.push o)[v.heap.size]? = _
    simp
  have n1 : ∀ (v : World) (o : Obj) (k : Nat), k < v.heap.size → (v.alloc o).heap[k]? = v.heap[k]? := fun v o k h => Below.heap_alloc v o k h
  have sz : ∀ (v : World) (o : Obj), (v.alloc o).heap.size = v.heap.size + 1 := fun v o => by
    show (v.heap.push o).size = _
    simp
  refine ⟨?_, ?_, ?_, ?_⟩
  · rw [n1 _ _ _ (by simp only [sz]; omega), n1 _ _ _ (by simp only [sz]; omega), n1 _ _ _ (by simp only [sz]; omega), ← sz w c]
    exact n0 _ _
  · rw [n1 _ _ _ (by simp only [sz]; omega), n1 _ _ _ (by simp only [sz]; omega), ← sz w c, ← sz (w.alloc c) _]
    exact n0 _ _
  · rw [n1 _ _ _ (by simp only [sz]; omega), ← sz w c, ← sz (w.alloc c) _, ← sz ((w.alloc c).alloc _) _]
    exact n0 _ _
  · rw [← sz w c, ← sz (w.alloc c) _, ← sz ((w.alloc c).alloc _) _, ← sz (((w.alloc c).alloc _).alloc _) _]
    exact n0 _ _

theorem ret_u64 {a b : Int} (h : a = b) : Ending.returned (.int .u64 a) = .returned (.int .u64 b) := by rw [h]
theorem val_u64 {a b : Int} (h : a = b) : Value.int .u64 a = .int .u64 b := by rw [h]
theorem fin_eq (k0 k1 : Int) (s x : ByteArray) (k : Nat) (S : Sip) (hk : 8 * k + x.size = s.size) (hx : x.data.toList = s.data.toList.drop (8 * k))
    (hS : comp (lastTo s.size x.data.toList x.size) (absorb s.data.toList (start k0 k1) k) = S) (h8 : x.size < 8) :
    hash k0 k1 s.data.toList = folded (rounds (marked S) 3) := by
  have l1 := list_length s
  have l2 := list_length x
  have h := absorb_last s.data.toList (start k0 k1) k x.data.toList hx (by omega) (by omega)
  rw [l1, l2, hS] at h
  rw [hash, l1, ← h]
theorem last_eq (s x : ByteArray) (j : Nat) (hj : j < 7) (hx : j < x.size) (m : Int) (hm : m = (((x[j]'hx).toNat * 2 ^ (8 * j) : Nat) : Int)) :
    bits .or .u64 (lastTo s.size x.data.toList j) m = lastTo s.size x.data.toList (j + 1) :=
  last_step s.size x.data.toList j hj (by rw [list_length]; exact hx) m hm
theorem wrap_byte (b : UInt8) (n : Int) (h : 0 ≤ n) (h' : n ≤ 281474976710656) : IntKind.u64.wrap (IntKind.u64.wrap (b.toNat : Int) * n) = (b.toNat : Int) * n := by
  have hb : b.toNat < 256 := b.toNat_lt
  have e : IntKind.u64.wrap (b.toNat : Int) = (b.toNat : Int) := u64_wrap_id _ (by omega) (by omega)
  have h1 : (b.toNat : Int) * n ≤ 255 * n := Int.mul_le_mul_of_nonneg_right (by omega) h
  have h0 : 0 ≤ (b.toNat : Int) * n := Int.mul_nonneg (by omega) h
  rw [e]
  exact u64_wrap_id _ h0 (by omega)

theorem last0 (s x : ByteArray) (h : 0 < x.size) : bits .or .u64 (lastTo s.size x.data.toList 0) (IntKind.u64.wrap (IntKind.u64.wrap ((x[0]'h).toNat : Int))) = lastTo s.size x.data.toList 1 := by
  refine last_eq s x 0 (by omega) h _ ?_
  have e := wrap_byte (x[0]'h) 1 (by omega) (by omega)
  rw [Int.mul_one] at e
  rw [e]
  omega
theorem last1 (s x : ByteArray) (h : 1 < x.size) : bits .or .u64 (lastTo s.size x.data.toList 1) (IntKind.u64.wrap (IntKind.u64.wrap ((x[1]'h).toNat : Int) * 256)) = lastTo s.size x.data.toList 2 := by
  refine last_eq s x 1 (by omega) h _ ?_
  rw [wrap_byte _ _ (by omega) (by omega)]
  omega
theorem last2 (s x : ByteArray) (h : 2 < x.size) : bits .or .u64 (lastTo s.size x.data.toList 2) (IntKind.u64.wrap (IntKind.u64.wrap ((x[2]'h).toNat : Int) * 65536)) = lastTo s.size x.data.toList 3 := by
  refine last_eq s x 2 (by omega) h _ ?_
  rw [wrap_byte _ _ (by omega) (by omega)]
  omega
theorem last3 (s x : ByteArray) (h : 3 < x.size) : bits .or .u64 (lastTo s.size x.data.toList 3) (IntKind.u64.wrap (IntKind.u64.wrap ((x[3]'h).toNat : Int) * 16777216)) = lastTo s.size x.data.toList 4 := by
  refine last_eq s x 3 (by omega) h _ ?_
  rw [wrap_byte _ _ (by omega) (by omega)]
  omega
theorem last4 (s x : ByteArray) (h : 4 < x.size) : bits .or .u64 (lastTo s.size x.data.toList 4) (IntKind.u64.wrap (IntKind.u64.wrap ((x[4]'h).toNat : Int) * 4294967296)) = lastTo s.size x.data.toList 5 := by
  refine last_eq s x 4 (by omega) h _ ?_
  rw [wrap_byte _ _ (by omega) (by omega)]
  omega
theorem last5 (s x : ByteArray) (h : 5 < x.size) : bits .or .u64 (lastTo s.size x.data.toList 5) (IntKind.u64.wrap (IntKind.u64.wrap ((x[5]'h).toNat : Int) * 1099511627776)) = lastTo s.size x.data.toList 6 := by
  refine last_eq s x 5 (by omega) h _ ?_
  rw [wrap_byte _ _ (by omega) (by omega)]
  omega
theorem last6 (s x : ByteArray) (h : 6 < x.size) : bits .or .u64 (lastTo s.size x.data.toList 6) (IntKind.u64.wrap (IntKind.u64.wrap ((x[6]'h).toNat : Int) * 281474976710656)) = lastTo s.size x.data.toList 7 := by
  refine last_eq s x 6 (by omega) h _ ?_
  rw [wrap_byte _ _ (by omega) (by omega)]
  omega

set_option maxRecDepth 100000 in
set_option maxHeartbeats 400000 in
theorem sipHash_any (k0 k1 : Int) (s : ByteArray) (hs : s.size ≤ 4096) (w : World) :
    Calls Yba.prog 4 #[.agg #[.int .u64 k0, .int .u64 k1], .string s] w fun e w' =>
      e = .returned (.int .u64 (hash k0 k1 s.data.toList)) ∧ Below w.heap.size w w' := by
  go_enter Yba.func4, Yba.ntmps4
  go_wp2
  go_loopw [1] (fun t wr => ∃ (k : Nat) (x : ByteArray), Hid (8 * k + x.size = s.size) ∧ Hid (x.data.toList = s.data.toList.drop (8 * k)) ∧ t = .string x ∧ Four (w.heap.size + 1) (absorb s.data.toList (start k0 k1) k) wr ∧ Below w.heap.size w wr) (fun t _ => strLen t)
  case atStart =>
    refine ⟨0, s, (by simp : 8 * 0 + s.size = s.size), (rfl : s.data.toList = s.data.toList), rfl, Four.start w k0 k1 _, ?_⟩
    exact (((((Below.refl _ w).alloc (by simp) _).alloc (by simp) _).alloc (by simp; omega) _).alloc (by simp; omega) _).alloc (by simp; omega) _
  case round =>
    obtain ⟨k, x, hk, hx, rfl, hF, hB⟩ := hrel
    have hxs : x.size ≤ 4096 := by have := hk.out; omega
    by_cases hlt : 8 ≤ x.size
    · have q0 : 0 < x.size := by omega
      have q1 : (1 : Int) < (x.size : Int) := by omega
      have q2 : (2 : Int) < (x.size : Int) := by omega
      have q3 : (3 : Int) < (x.size : Int) := by omega
      have q4 : (4 : Int) < (x.size : Int) := by omega
      have q5 : (5 : Int) < (x.size : Int) := by omega
      have q6 : (6 : Int) < (x.size : Int) := by omega
      have q7 : (7 : Int) < (x.size : Int) := by omega
      go_wp2
      refine wp_region_still_tail 39 (by kernel_rfl) (by kernel_rfl) ?_
      simp only [List.take_succ_cons, List.take_zero, List.drop_succ_cons, List.drop_zero]
      repeat still_step
      refine wpStill_nil ?_
      have hFd := hF.drew
      have hBd := hB.drew
      clear hF hB
      go_wp2_with (go_at_call 6; refine (compress_any _ _ _ (ok_absorb _ _ (ok_start _ _) _) _ hFd).mono ?_; rintro e w2 ⟨rfl, hF2, hB2⟩)
      go_roundw
      case rel =>
        refine ⟨k + 1, x.extract 8 x.size, ?_, ?_, rfl, ?_, hBd.trans (hB2.mono (by omega))⟩
        · show 8 * (k + 1) + (x.extract 8 x.size).size = s.size
          have := hk.out
          simp
          omega
        · show (x.extract 8 x.size).data.toList = List.drop (8 * (k + 1)) s.data.toList
          rw [extract_list, hx.out, List.drop_drop, Nat.mul_add]
        · rw [← absorb_step s.data.toList (start k0 k1) k x hlt hx.out _ (spelt _ _ _ _ _ _ _ _)]
          exact hF2
      case measure =>
        simp [strLen]
        omega
    · go_wp2
      go_loop [11, 78] (fun t i => ∃ j : Nat, j ≤ x.size ∧ i = .int .i64 j ∧ t = .int .u64 (lastTo s.size x.data.toList j)) (fun _ i => x.size - (intOf i).toNat)
      case atStart => exact ⟨0, by omega, rfl, by rw [← lastTo_zero]⟩
      case round =>
        obtain ⟨j, hj, rfl, rfl⟩ := hrel
        by_cases hjx : j < x.size
        · rcases (show j = 0 ∨ j = 1 ∨ j = 2 ∨ j = 3 ∨ j = 4 ∨ j = 5 ∨ j = 6 from by omega) with rfl | rfl | rfl | rfl | rfl | rfl | rfl
          · go_wp2
            go_round
            case rel => exact ⟨1, by omega, rfl, val_u64 (last0 s x hjx)⟩
            case measure => simp [intOf]; omega
          · go_wp2
            go_round
            case rel => exact ⟨2, by omega, rfl, val_u64 (last1 s x hjx)⟩
            case measure => simp [intOf]; omega
          · go_wp2
            go_round
            case rel => exact ⟨3, by omega, rfl, val_u64 (last2 s x hjx)⟩
            case measure => simp [intOf]; omega
          · go_wp2
            go_round
            case rel => exact ⟨4, by omega, rfl, val_u64 (last3 s x hjx)⟩
            case measure => simp [intOf]; omega
          · go_wp2
            go_round
            case rel => exact ⟨5, by omega, rfl, val_u64 (last4 s x hjx)⟩
            case measure => simp [intOf]; omega
          · go_wp2
            go_round
            case rel => exact ⟨6, by omega, rfl, val_u64 (last5 s x hjx)⟩
            case measure => simp [intOf]; omega
          · go_wp2
            go_round
            case rel => exact ⟨7, by omega, rfl, val_u64 (last6 s x hjx)⟩
            case measure => simp [intOf]; omega
        · obtain rfl : j = x.size := by omega
          have hFF := compress_any (lastTo s.size x.data.toList x.size) _ _ (ok_absorb _ _ (ok_start _ _) _) _ hF
          go_wp2_with fail
          refine hFF.mono ?_
          rintro e w2 ⟨rfl, hF2, hB2⟩
          clear hFF hF
          have okS := ok_comp (lastTo s.size x.data.toList x.size) (absorb s.data.toList (start k0 k1) k)
          generalize hS : comp (lastTo s.size x.data.toList x.size) (absorb s.data.toList (start k0 k1) k) = S at hF2 okS
          have HS : Hid (comp (lastTo s.size x.data.toList x.size) (absorb s.data.toList (start k0 k1) k) = S) := hS
          clear hS
          have c2 := cell_of_one hF2.b2
          have f2 := free_of_one hF2.b2
          have hB3 : Below w.heap.size w w2 := hB.trans (hB2.mono (by omega))
          clear hB hB2
          go_wp2
          clear c2 f2
          go_loopw [96] (fun i wr2 => ∃ j : Nat, j ≤ 3 ∧ i = .int .i64 j ∧ Four (w.heap.size + 1) (rounds (marked S) j) wr2 ∧ Below w.heap.size w wr2) (fun i _ => 3 - (intOf i).toNat)
          case atStart => exact ⟨0, by omega, rfl, hF2.set2 _, hB3.setCell (by show w.heap.size ≤ w.heap.size + 1 + 1 + 1; omega) _⟩
          case round =>
            clear hF2 hB3
            obtain ⟨j, hj, rfl, hG, hD⟩ := hrel
            have okR := ok_rounds _ (ok_marked S okS) j
            have c0 := cell_of_one hG.b0
            have c1 := cell_of_one hG.b1
            have c2 := cell_of_one hG.b2
            have c3 := cell_of_one hG.b3
            have f0 := free_of_one hG.b0
            have f1 := free_of_one hG.b1
            have f2 := free_of_one hG.b2
            have f3 := free_of_one hG.b3
            have HG : Hid (Four (w.heap.size + 1) (rounds (marked S) j) _) := hG
            clear hG
            by_cases hj3 : j < 3
            · go_wp2_with (go_at_call 7; refine (sipRound_any _ _ _ _ okR.h0 okR.h1 okR.h2 okR.h3 _).mono ?_; rintro e w' ⟨rfl, rfl⟩; unfold Sip.tup)
              go_roundw
              case rel => exact ⟨j + 1, by omega, by go_num, (((HG.out.set0 _).set1 _).set2 _).set3 _, (((hD.setCell (by show w.heap.size ≤ w.heap.size + 1; omega) _).setCell (by show w.heap.size ≤ w.heap.size + 1 + 1; omega) _).setCell (by show w.heap.size ≤ w.heap.size + 1 + 1 + 1; omega) _).setCell (by show w.heap.size ≤ w.heap.size + 1 + 1 + 1 + 1; omega) _⟩
              case measure => simp [intOf]; omega
            · obtain rfl : j = 3 := by omega
              go_wp2
              go_ret
              exact ⟨ret_u64 (fin_eq k0 k1 s x k S hk.out hx.out HS.out (by omega)).symm, hD⟩
end Go.Proofs.YbulkbrjgR
