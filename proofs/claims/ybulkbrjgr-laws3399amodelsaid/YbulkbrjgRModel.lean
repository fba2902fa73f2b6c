import Derived.Test.YbulkbrjgRPlain
import Derived.Test.YbulkbrjgRUint
import Derived.StillTailTactics
import Derived.Lib.AppendStr
import Derived.Laws.AppendOwn
namespace Go.Proofs.YbulkbrjgR
open Go.RowKit

theorem Yba.info5 : (Yba.prog.info? 5).map (fun i => (i.zero, i.size, i.bytes)) = some (some (.int .u8 0), 1, 1) := by kernel_rfl

/-- Bytes as cells. -/
def cellsOf (l : List UInt8) : List Value := l.map fun b => Value.int .u8 b.toNat
def sliceLen : Value → Nat | .slice _ n _ => n | _ => 0

theorem owns_below {base : Nat} {e : TypeId} {sz n : Nat} {v : Value} {xs : List Value} {W W' : World} (h : W.ownsRow base e sz v n xs) (hb : Below W.heap.size W W') : W'.ownsRow base e sz v n xs := by
  obtain ⟨h1, h2⟩ := h
  refine ⟨h1, ?_⟩
  rcases h2 with h2 | ⟨g, cap, cur, hv, hg, hh, r⟩
  · exact Or.inl h2
  · exact Or.inr ⟨g, cap, cur, hv, hg, (hb.block g (lt_of_block hh)).trans hh, r⟩

/-- A slice of bytes that the call owns, told whole. -/
def Buf (B : Nat) (t : Value) (n : Nat) (l : List UInt8) (w : World) : Prop := ∃ g cap, t = .slice (some ⟨g, 0, none⟩) n cap ∧ w.ownsRow B 5 1 t n (cellsOf l)
theorem buf_of {B n : Nat} {v : Value} {l : List UInt8} {w : World} (h : w.ownsRow B 5 1 v n (cellsOf l)) (hn : v ≠ .slice none 0 0) : Buf B v n l w := by
  rcases h.2 with ⟨h0, _⟩ | ⟨g, cap, cur, hv, _⟩
  · exact absurd h0 hn
  · exact ⟨g, cap, hv, h⟩
theorem new_byte (w : World) (c : Int) : ∀ (j : Nat) u, [Value.int .u8 c][j]? = some u → (w.alloc (.cells #[.int .u8 c] 5)).cell? ((⟨w.heap.size, 0, none⟩ : Addr).add j) = some u := by
  intro j u hj
  match j, hj with
  | 0, hj => simp at hj; subst hj; simp [Addr.add]
  | (j + 1), hj => simp at hj
theorem byte_one (c : Int) : ∀ u ∈ [Value.int .u8 c], u.oneCell' = true := by
  intro u hu
  simp at hu
  subst hu
  rfl
theorem cells_snoc (l : List UInt8) (b : UInt8) : cellsOf (l ++ [b]) = cellsOf l ++ [.int .u8 b.toNat] := by simp [cellsOf]

theorem Buf.len {B n : Nat} {v : Value} {l : List UInt8} {w : World} (h : Buf B v n l w) : sliceLen v = n := by
  obtain ⟨g, cap, rfl, _⟩ := h
  rfl
theorem own_le {B : Nat} {g n cap m : Nat} {xs : List Value} {w : World} (h : w.ownsRow B 5 1 (.slice (some ⟨g, 0, none⟩) n cap) m xs) {k : Nat} (hk : (Value.slice (some ⟨g, 0, none⟩) n cap).ownBlock = some k) : B ≤ k := (h.lt k hk).1
theorem buf_next {B n j : Nat} {v : Value} {l : List UInt8} {w : World} (h : w.ownsRow B 5 1 v (n + j + 1) (cellsOf (l ++ List.replicate j 0) ++ [.int .u8 0])) (hn : v ≠ .slice none 0 0) : Buf B v (n + (j + 1)) (l ++ List.replicate (j + 1) 0) w := by
  refine buf_of ?_ hn
  rw [List.replicate_succ', ← List.append_assoc, cells_snoc]
  exact h
theorem buf_pad {B : Nat} {v : Value} {w : World} (s : ByteArray) (j : Nat) (hj : j = 7 - s.size % 8) (h : w.ownsRow B 5 1 v (s.size + j + 1) (cellsOf (s.data.toList ++ List.replicate j 0) ++ [.int .u8 ((s.size : Int) % 256)])) (hn : v ≠ .slice none 0 0) :
    Buf B v (8 * (s.size / 8 + 1)) (pad s.data.toList) w := by
  refine buf_of ?_ hn
  have e : cellsOf (pad s.data.toList) = cellsOf (s.data.toList ++ List.replicate j 0) ++ [.int .u8 ((s.size : Int) % 256)] := by
    rw [pad, list_length, ← hj, ← List.append_assoc, cells_snoc]
    congr 3
  rw [e, show 8 * (s.size / 8 + 1) = s.size + j + 1 from by omega]
  exact h

theorem own_cap {B g n cap : Nat} {xs : List Value} {w : World} (h : w.ownsRow B 5 1 (.slice (some ⟨g, 0, none⟩) n cap) n xs) : n ≤ cap ∧ cap ≤ 9223372036854775807 := by
  rcases h.2 with ⟨h0, _⟩ | ⟨g', cap', cur, hv, _, _, h1, h2, _⟩
  · cases h0
  · simp only [Value.slice.injEq] at hv
    obtain ⟨_, _, rfl⟩ := hv
    exact ⟨h1, h2⟩

theorem eight_of (P : List UInt8) (h : 8 ≤ P.length) : ∃ b0 b1 b2 b3 b4 b5 b6 b7 : UInt8, P.take 8 = [b0, b1, b2, b3, b4, b5, b6, b7] ∧ P[0]? = some b0 ∧ P[1]? = some b1 ∧ P[2]? = some b2 ∧ P[3]? = some b3 ∧ P[4]? = some b4 ∧ P[5]? = some b5 ∧ P[6]? = some b6 ∧ P[7]? = some b7 := by
  match P, h with
  | b0 :: b1 :: b2 :: b3 :: b4 :: b5 :: b6 :: b7 :: r, _ => exact ⟨b0, b1, b2, b3, b4, b5, b6, b7, by simp⟩
theorem eight_at {B g N cap : Nat} {P : List UInt8} {w : World} (h : w.ownsRow B 5 1 (.slice (some ⟨g, 0, none⟩) (8 * N) cap) (8 * N) (cellsOf P)) (k : Nat) (hk : k < N) :
    ∃ b0 b1 b2 b3 b4 b5 b6 b7 : UInt8, Hid ((P.drop (8 * k)).take 8 = [b0, b1, b2, b3, b4, b5, b6, b7]) ∧
      w.cell? ⟨g, 8 * k, none⟩ = some (.int .u8 b0.toNat) ∧ w.cell? ⟨g, 8 * k + 1, none⟩ = some (.int .u8 b1.toNat) ∧
      w.cell? ⟨g, 8 * k + 2, none⟩ = some (.int .u8 b2.toNat) ∧ w.cell? ⟨g, 8 * k + 3, none⟩ = some (.int .u8 b3.toNat) ∧
      w.cell? ⟨g, 8 * k + 4, none⟩ = some (.int .u8 b4.toNat) ∧ w.cell? ⟨g, 8 * k + 5, none⟩ = some (.int .u8 b5.toNat) ∧
      w.cell? ⟨g, 8 * k + 6, none⟩ = some (.int .u8 b6.toNat) ∧ w.cell? ⟨g, 8 * k + 7, none⟩ = some (.int .u8 b7.toNat) := by
  have hl : P.length = 8 * N := by have := h.1; simpa [cellsOf] using this
  obtain ⟨b0, b1, b2, b3, b4, b5, b6, b7, ht, h0, h1, h2, h3, h4, h5, h6, h7⟩ := eight_of (P.drop (8 * k)) (by rw [List.length_drop]; omega)
  have hc : ∀ j b, j < 8 → (P.drop (8 * k))[j]? = some b → w.cell? ⟨g, 8 * k + j, none⟩ = some (.int .u8 b.toNat) := fun j b hj hb => by
    rw [h.cellAt (8 * k + j) (by omega)]
    rw [List.getElem?_drop] at hb
    simp [cellsOf, hb]
  exact ⟨b0, b1, b2, b3, b4, b5, b6, b7, ht, hc 0 b0 (by omega) h0, hc 1 b1 (by omega) h1, hc 2 b2 (by omega) h2, hc 3 b3 (by omega) h3, hc 4 b4 (by omega) h4, hc 5 b5 (by omega) h5, hc 6 b6 (by omega) h6, hc 7 b7 (by omega) h7⟩

theorem ret_word {a b : Int} (h : a = b) : Ending.returned (.int .u64 a) = .returned (.int .u64 b) := by rw [h]
set_option maxRecDepth 100000 in
set_option maxHeartbeats 400000 in
theorem model_any (k0 k1 : Int) (s : ByteArray) (hs : s.size ≤ 4096) (w : World) :
    Calls Yba.prog 5 #[.int .u64 k0, .int .u64 k1, .string s] w fun e w' =>
      e = .returned (.int .u64 (hash k0 k1 s.data.toList)) ∧ Below w.heap.size w w' := by
  obtain ⟨i, hi, hz0, hz1, hz2⟩ := info_parts Yba.info5
  have Hhz2 : Hid (i.bytes = 1) := hz2
  go_enter Yba.func5, Yba.ntmps5
  go_wp2_with (first
    | (at_make; refine wpList_make_own _ rfl _ _ 32 rfl w.heap.size 5 i (.int .u8 0) 1 Yba.underlying32 hi hz0 hz1 _ _ _ (s.size + 8) rfl rfl (by simp) (by rw [hz2]; omega) (by unfold maxLen; omega) (Nat.le_refl _) ?_; intro w1 hown1 hgrow1)
    | (at_builtin; refine Lib.wpList_append_own_string _ rfl _ _ 32 9 rfl w.heap.size 5 i Yba.underlying32 Yba.underlying9 hi hz0 hz1 hz2 (.slice (some ⟨w.heap.size, 0, none⟩) 0 (s.size + 8)) 0 [] rfl hown1 s rfl (by unfold maxLen; omega) (by omega) hgrow1.size ?_; intro v2 w2 hown2 hgrow2 hnil2))
  have hb2 : Buf w.heap.size v2 (s.size + 0) (s.data.toList ++ List.replicate 0 0) w2 := by
    rw [Nat.zero_add, List.nil_append] at hown2
    exact buf_of (by simpa using (show w2.ownsRow w.heap.size 5 1 v2 s.size (cellsOf s.data.toList) from hown2)) (by simp [hnil2])
  have hB2 : Below w.heap.size w w2 := ((Below.refl _ w).grown hgrow1 (Nat.le_refl _) (fun k hk => by cases hk)).grown hgrow2 hgrow1.size (fun k hk => by simp [Value.ownBlock] at hk; omega)
  clear hown1 hown2 hnil2 hgrow1 hgrow2
  go_loopw [7] (fun t wr => ∃ j : Nat, j ≤ 7 - s.size % 8 ∧ Buf w.heap.size t (s.size + j) (s.data.toList ++ List.replicate j 0) wr ∧ Below w.heap.size w wr) (fun t _ => s.size + 8 - sliceLen t)
  case atStart => exact ⟨0, by omega, hb2, hB2⟩
  case round =>
    clear hb2 hB2
    obtain ⟨j, hj, ⟨g, cap, rfl, hown⟩, hB⟩ := hrel
    by_cases hj7 : j < 7 - s.size % 8
    · go_wp2_with (at_builtin; refine wpList_append_own _ rfl _ _ 32 rfl w.heap.size 5 i (.int .u8 0) 1 1 Yba.underlying32 hi hz0 hz1 hz2 rfl (by decide) (.slice (some ⟨g, 0, none⟩) (s.size + j) cap) (s.size + j) _ rfl (hown.alloc _) ⟨_, 0, none⟩ 1 1 [.int .u8 0] rfl rfl (new_byte _ _) (byte_one _) (by unfold maxLen; omega) (by omega) (by have := hB.size; simp; omega) ?_; intro v3 w3 hown3 hgrow3 hnil3)
      go_roundw
      case rel => exact ⟨j + 1, by omega, buf_next hown3 (by simp [hnil3]), (hB.alloc hB.size _).grown hgrow3 (by have := hB.size; simp; omega) (fun k hk => own_le hown hk)⟩
      case measure =>
        have := (buf_next hown3 (by simp [hnil3])).len
        rw [this]
        simp [sliceLen]
        omega
    · have Hj8 : Hid (j = 7 - s.size % 8) := (by omega : j = 7 - s.size % 8)
      go_wp2_with (at_builtin; refine wpList_append_own _ rfl _ _ 32 rfl w.heap.size 5 i (.int .u8 0) 1 1 Yba.underlying32 hi hz0 hz1 hz2 rfl (by decide) (.slice (some ⟨g, 0, none⟩) (s.size + j) cap) (s.size + j) _ rfl (hown.alloc _) ⟨_, 0, none⟩ 1 1 [.int .u8 ((s.size : Int) % 256)] rfl rfl (new_byte _ _) (byte_one _) (by unfold maxLen; omega) (by omega) (by have := hB.size; simp; omega) ?_; intro v3 w3 hown3 hgrow3 hnil3)
      obtain ⟨N, hN⟩ : ∃ N, N = s.size / 8 + 1 := ⟨_, rfl⟩
      have hNb : N ≤ 600 := by omega
      obtain ⟨P, hP⟩ : ∃ P, P = pad s.data.toList := ⟨_, rfl⟩
      have hb3 : Buf w.heap.size v3 (8 * N) P w3 := by rw [hN, hP]; exact buf_pad s j Hj8.out hown3 (by simp [hnil3])
      have HN : Hid (N = s.size / 8 + 1) := hN
      have HP : Hid (P = pad s.data.toList) := hP
      have hB3 : Below w.heap.size w w3 := (hB.alloc hB.size _).grown hgrow3 (by have := hB.size; simp; omega) (fun k hk => own_le hown hk)
      clear hown hB hown3 hgrow3 hnil3 hN hP hj hj7 Hj8
      obtain ⟨g3, cap3, rfl, hown3⟩ := hb3
      have okS := ok_start k0 k1
      obtain ⟨S, hS⟩ : ∃ S, S = start k0 k1 := ⟨_, rfl⟩
      rw [← hS] at okS
      have HS : Hid (S = start k0 k1) := hS
      have hcap : 8 * N ≤ cap3 ∧ cap3 ≤ 9223372036854775807 := own_cap hown3
      obtain ⟨hcap1, hcap2⟩ := hcap
      go_loopw [8, 9, 10, 11, 12] (fun a b c d i wr => ∃ k : Nat, k ≤ N ∧ i = .int .i64 (8 * k) ∧ a = .int .u64 (absorb P S k).v0 ∧ b = .int .u64 (absorb P S k).v1 ∧ c = .int .u64 (absorb P S k).v2 ∧ d = .int .u64 (absorb P S k).v3 ∧ wr.ownsRow w.heap.size 5 1 (.slice (some ⟨g3, 0, none⟩) (8 * N) cap3) (8 * N) (cellsOf P) ∧ Below w.heap.size w wr) (fun _ _ _ _ i _ => 8 * N - (intOf i).toNat)
      case atStart => exact ⟨0, by omega, rfl, by rw [hS]; rfl, by rw [hS]; rfl, by rw [hS]; rfl, by rw [hS]; rfl, hown3, hB3⟩
      case round =>
        clear hS hown3 hB3
        obtain ⟨k, hk, rfl, rfl, rfl, rfl, rfl, hown, hB⟩ := hrel
        have okA := ok_absorb P S okS k
        by_cases hkN : k < N
        · go_wp2
          have e1 : IntKind.i64.wrap (8 * (k : Int) + 8) = 8 * (k : Int) + 8 := by rw [IntKind.wrap_i64]; omega
          have e2 : 0 ≤ 8 * (k : Int) + 8 := by omega
          have e3 : 8 * (k : Int) + 8 ≤ (cap3 : Int) := by omega
          have e4 : 0 ≤ 8 * (k : Int) := by omega
          have e5 : 8 * (k : Int) ≤ 8 * (k : Int) + 8 := by omega
          have e6 : (8 * (k : Int)).toNat = 8 * k := by omega
          have e7 : (8 * (k : Int) + 8).toNat = 8 * k + 8 := by omega
          have e8 : ¬ cap3 = 8 * k := by omega
          have e9 : 8 * k + 8 - 8 * k = 8 := by omega
          refine wp_region_still_tail 6 (by kernel_rfl) (by kernel_rfl) ?_
          simp only [List.take_succ_cons, List.take_zero, List.drop_succ_cons, List.drop_zero]
          repeat still_step
          refine wpStill_nil ?_
          clear e1 e2 e3 e4 e5 e6 e7 e8 e9
          obtain ⟨b0, b1, b2, b3, b4, b5, b6, b7, HE, c0, c1, c2, c3, c4, c5, c6, c7⟩ := eight_at hown.drew k (by omega)
          have hU := uint64_any g3 (8 * k) 8 (cap3 - 8 * k) b0 b1 b2 b3 b4 b5 b6 b7 _ (Nat.le_refl _) c0 c1 c2 c3 c4 c5 c6 c7
          clear c0 c1 c2 c3 c4 c5 c6 c7
          obtain ⟨M, hM⟩ : ∃ M : Int, M = ((Lib.leNat [b0, b1, b2, b3, b4, b5, b6, b7] : Nat) : Int) := ⟨_, rfl⟩
          rw [← hM] at hU
          have HM : Hid (M = ((Lib.leNat [b0, b1, b2, b3, b4, b5, b6, b7] : Nat) : Int)) := hM
          clear hM
          go_wp2_with (first
            | (go_at_call 8; refine hU.mono ?_; rintro e w4 ⟨rfl, hB4⟩)
            | (go_at_call 9; refine (around_any _ _ _ _ okA.h0 okA.h1 okA.h2 (word_bits _ _ _) _).mono ?_; rintro e w5 ⟨rfl, rfl⟩; unfold Sip.tup))
          have eA : absorb P S (k + 1) = comp M (absorb P S k) := by rw [HM.out, ← HE.out]; rfl
          have hBd : Below w.heap.size w w5 := hB.drew.trans (hB4.mono (by have := hB.size; simp; omega))
          have hO : w5.ownsRow w.heap.size 5 1 (.slice (some ⟨g3, 0, none⟩) (8 * N) cap3) (8 * N) (cellsOf P) := owns_below hown.drew hB4
          go_roundw
          case rel => exact ⟨k + 1, by omega, by go_num, by rw [eA]; rfl, by rw [eA]; rfl, by rw [eA]; rfl, by rw [eA]; rfl, hO, hBd⟩
          case measure => simp [intOf]; omega
        · obtain rfl : k = N := by omega
          have okM := ok_marked _ okA
          obtain ⟨T, hT⟩ : ∃ T, T = marked (absorb P S k) := ⟨_, rfl⟩
          rw [← hT] at okM
          have HT : Hid (T = marked (absorb P S k)) := hT
          go_wp2
          go_loop [8, 9, 10, 11, 14] (fun a b c d i => ∃ j : Nat, j ≤ 3 ∧ i = .int .i64 j ∧ a = .int .u64 (rounds T j).v0 ∧ b = .int .u64 (rounds T j).v1 ∧ c = .int .u64 (rounds T j).v2 ∧ d = .int .u64 (rounds T j).v3) (fun _ _ _ _ i => 3 - (intOf i).toNat)
          case atStart => exact ⟨0, by omega, rfl, by rw [HT.out]; rfl, by rw [HT.out]; rfl, by rw [HT.out]; rfl, by rw [HT.out]; rfl⟩
          case round =>
            clear hT
            obtain ⟨m, hm, rfl, rfl, rfl, rfl, rfl⟩ := hrel
            have okR := ok_rounds _ okM m
            by_cases hm3 : m < 3
            · go_wp2_with (go_at_call 9; refine (around_any _ _ _ _ okR.h0 okR.h1 okR.h2 okR.h3 _).mono ?_; rintro e w5 ⟨rfl, rfl⟩; unfold Sip.tup)
              go_round
              case rel => exact ⟨m + 1, by omega, by go_num, rfl, rfl, rfl, rfl⟩
              case measure => simp [intOf]; omega
            · obtain rfl : m = 3 := by omega
              go_wp2
              go_ret
              exact ⟨ret_word (by rw [hash, list_length, ← HN.out, ← HP.out, ← HS.out, ← HT.out]; rfl), hB⟩
end Go.Proofs.YbulkbrjgR
