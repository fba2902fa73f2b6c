/-
  The two rounds of SipHash: 'sipRound' (by bits.RotateLeft64) and 'zzs3399around' (by zzs3399arotl) compute one plain function.
-/
import Derived.Test.YbulkbrjgRRows
import Derived.WalkKit
import Derived.WalkSpells
import Derived.StillTactics
import Derived.Below
namespace Go.Proofs.YbulkbrjgR
open Go.RowKit

/-- A word. -/
def Word (x : Int) : Prop := 0 ≤ x ∧ x < 18446744073709551616

theorem word_wrap (x : Int) : Word (IntKind.u64.wrap x) := by
  unfold Word IntKind.wrap
  simp only [IntKind.signed, IntKind.bits]
  simp
  omega

theorem word_bits (op : BinOp) (x y : Int) : Word (bits op .u64 x y) := word_wrap _

/-- The rotation to the left by r bits. -/
def rot (r : Int) (x : Int) : Int := bits .or .u64 (IntKind.u64.wrap (x * 2 ^ r.toNat)) (x / 2 ^ (64 - r.toNat))
theorem word_rot (r x : Int) : Word (rot r x) := word_bits _ _ _

/-- The five rotations that a round makes. -/
def Turn (r : Int) : Prop := r = 13 ∨ r = 16 ∨ r = 17 ∨ r = 21 ∨ r = 32

theorem rotl_any (x r : Int) (hx : Word x) (hr : Turn r) (w : World) :
    Calls Yba.prog 11 #[.int .u64 x, .int .u64 r] w fun e w' => e = .returned (.int .u64 (rot r x)) ∧ w' = w := by
  obtain ⟨h0, h1⟩ := hx
  unfold rot
  rcases hr with rfl | rfl | rfl | rfl | rfl
  all_goals
    go_enter Yba.func11, Yba.ntmps11
    go_wp2
    go_ret
    exact ⟨rfl, rfl⟩

theorem rotateLeft_any (x r : Int) (hx : Word x) (hr : Turn r) (w : World) :
    Calls Yba.prog 10 #[.int .u64 x, .int .i64 r] w fun e w' => e = .returned (.int .u64 (rot r x)) ∧ w' = w := by
  obtain ⟨h0, h1⟩ := hx
  have b13 : bits BinOp.and IntKind.u64 13 63 = 13 := by decide +kernel
  have b16 : bits BinOp.and IntKind.u64 16 63 = 16 := by decide +kernel
  have b17 : bits BinOp.and IntKind.u64 17 63 = 17 := by decide +kernel
  have b21 : bits BinOp.and IntKind.u64 21 63 = 21 := by decide +kernel
  have b32 : bits BinOp.and IntKind.u64 32 63 = 32 := by decide +kernel
  unfold rot
  rcases hr with rfl | rfl | rfl | rfl | rfl
  all_goals
    go_enter Yba.func10, Yba.ntmps10
    go_wp2
    go_ret
    exact ⟨rfl, rfl⟩

/-- Addition and exclusive or of words. -/
def ad (x y : Int) : Int := IntKind.u64.wrap (x + y)
def xo (x y : Int) : Int := bits .xor .u64 x y
theorem word_ad (x y : Int) : Word (ad x y) := word_wrap _
theorem word_xo (x y : Int) : Word (xo x y) := word_bits _ _ _


/-- The four words of the state. -/
structure Sip where
  v0 : Int
  v1 : Int
  v2 : Int
  v3 : Int

/-- One round. -/
def turned (s : Sip) : Sip :=
  { v0 := ad (rot 32 (ad s.v0 s.v1)) (xo (rot 16 s.v3) (ad s.v2 s.v3))
    v1 := xo (rot 17 (xo (rot 13 s.v1) (ad s.v0 s.v1))) (ad (ad s.v2 s.v3) (xo (rot 13 s.v1) (ad s.v0 s.v1)))
    v2 := rot 32 (ad (ad s.v2 s.v3) (xo (rot 13 s.v1) (ad s.v0 s.v1)))
    v3 := xo (rot 21 (xo (rot 16 s.v3) (ad s.v2 s.v3))) (ad (rot 32 (ad s.v0 s.v1)) (xo (rot 16 s.v3) (ad s.v2 s.v3))) }

/-- The value that a round hands back. -/
def Sip.tup (s : Sip) : Value := .tuple #[.int .u64 s.v0, .int .u64 s.v1, .int .u64 s.v2, .int .u64 s.v3]


theorem around_any (a b c d : Int) (ha : Word a) (hb : Word b) (hc : Word c) (hd : Word d) (w : World) :
    Calls Yba.prog 9 #[.int .u64 a, .int .u64 b, .int .u64 c, .int .u64 d] w fun e w' => e = .returned (turned ⟨a, b, c, d⟩).tup ∧ w' = w := by
  obtain ⟨a0, a1⟩ := ha; obtain ⟨b0, b1⟩ := hb; obtain ⟨c0, c1⟩ := hc; obtain ⟨d0, d1⟩ := hd
  go_enter Yba.func9, Yba.ntmps9
  go_wp2_with (go_at_call 11; refine (rotl_any _ _ (by first | exact word_bits _ _ _ | exact word_wrap _ | exact word_rot _ _ | exact ⟨by omega, by omega⟩) (by unfold Turn; decide) _).mono ?_; rintro e w' ⟨rfl, rfl⟩)
  exact bodyPost_ret (v := (turned ⟨a, b, c, d⟩).tup) (by simp [results, Yba.results9, go_sem, turned, Sip.tup, ad, xo]) rfl ⟨rfl, rfl⟩

theorem sipRound_any (a b c d : Int) (ha : Word a) (hb : Word b) (hc : Word c) (hd : Word d) (w : World) :
    Calls Yba.prog 7 #[.int .u64 a, .int .u64 b, .int .u64 c, .int .u64 d] w fun e w' => e = .returned (turned ⟨a, b, c, d⟩).tup ∧ w' = w := by
  obtain ⟨a0, a1⟩ := ha; obtain ⟨b0, b1⟩ := hb; obtain ⟨c0, c1⟩ := hc; obtain ⟨d0, d1⟩ := hd
  go_enter Yba.func7, Yba.ntmps7
  go_wp2_with (go_at_call 10; refine (rotateLeft_any _ _ (by first | exact word_bits _ _ _ | exact word_wrap _ | exact word_rot _ _ | exact ⟨by omega, by omega⟩) (by unfold Turn; decide) _).mono ?_; rintro e w' ⟨rfl, rfl⟩)
  exact bodyPost_ret (v := (turned ⟨a, b, c, d⟩).tup) (by simp [results, Yba.results7, go_sem, turned, Sip.tup, ad, xo]) rfl ⟨rfl, rfl⟩

/-- Each of the four is a word. -/
structure Sip.Ok (s : Sip) : Prop where
  h0 : Word s.v0
  h1 : Word s.v1
  h2 : Word s.v2
  h3 : Word s.v3
theorem ok_turned (s : Sip) : (turned s).Ok := ⟨word_ad _ _, word_xo _ _, word_rot _ _, word_xo _ _⟩

/-- One word is taken in. -/
def comp (m : Int) (s : Sip) : Sip :=
  { turned { s with v3 := xo s.v3 m } with v0 := xo (turned { s with v3 := xo s.v3 m }).v0 m }
theorem ok_comp (m : Int) (s : Sip) : (comp m s).Ok := ⟨word_xo _ _, (ok_turned _).h1, (ok_turned _).h2, (ok_turned _).h3⟩

/-- The four captured variables: a block each, from block g on. -/
structure Four (g : Nat) (s : Sip) (w : World) : Prop where
  b0 : w.heap[g]? = some (.cells #[.int .u64 s.v0] 22 (0, 0))
  b1 : w.heap[g + 1]? = some (.cells #[.int .u64 s.v1] 22 (0, 0))
  b2 : w.heap[g + 1 + 1]? = some (.cells #[.int .u64 s.v2] 22 (0, 0))
  b3 : w.heap[g + 1 + 1 + 1]? = some (.cells #[.int .u64 s.v3] 22 (0, 0))

theorem Four.set0 {g : Nat} {s : Sip} {w : World} (h : Four g s w) (x : Int) : Four g { s with v0 := x } (w.setCell ⟨g, 0, none⟩ (.int .u64 x)) :=
  ⟨one_setCell h.b0, (Below.heap_setCell _ _ _ _ (by show g + 1 ≠ g; omega)).trans h.b1, (Below.heap_setCell _ _ _ _ (by show g + 1 + 1 ≠ g; omega)).trans h.b2, (Below.heap_setCell _ _ _ _ (by show g + 1 + 1 + 1 ≠ g; omega)).trans h.b3⟩
theorem Four.set1 {g : Nat} {s : Sip} {w : World} (h : Four g s w) (x : Int) : Four g { s with v1 := x } (w.setCell ⟨g + 1, 0, none⟩ (.int .u64 x)) :=
  ⟨(Below.heap_setCell _ _ _ _ (by show g ≠ g + 1; omega)).trans h.b0, one_setCell h.b1, (Below.heap_setCell _ _ _ _ (by show g + 1 + 1 ≠ g + 1; omega)).trans h.b2, (Below.heap_setCell _ _ _ _ (by show g + 1 + 1 + 1 ≠ g + 1; omega)).trans h.b3⟩
theorem Four.set2 {g : Nat} {s : Sip} {w : World} (h : Four g s w) (x : Int) : Four g { s with v2 := x } (w.setCell ⟨g + 1 + 1, 0, none⟩ (.int .u64 x)) :=
  ⟨(Below.heap_setCell _ _ _ _ (by show g ≠ g + 1 + 1; omega)).trans h.b0, (Below.heap_setCell _ _ _ _ (by show g + 1 ≠ g + 1 + 1; omega)).trans h.b1, one_setCell h.b2, (Below.heap_setCell _ _ _ _ (by show g + 1 + 1 + 1 ≠ g + 1 + 1; omega)).trans h.b3⟩
theorem Four.set3 {g : Nat} {s : Sip} {w : World} (h : Four g s w) (x : Int) : Four g { s with v3 := x } (w.setCell ⟨g + 1 + 1 + 1, 0, none⟩ (.int .u64 x)) :=
  ⟨(Below.heap_setCell _ _ _ _ (by show g ≠ g + 1 + 1 + 1; omega)).trans h.b0, (Below.heap_setCell _ _ _ _ (by show g + 1 ≠ g + 1 + 1 + 1; omega)).trans h.b1, (Below.heap_setCell _ _ _ _ (by show g + 1 + 1 ≠ g + 1 + 1 + 1; omega)).trans h.b2, one_setCell h.b3⟩
theorem Four.drew {g : Nat} {s : Sip} {w : World} (h : Four g s w) : Four g s w.drew := ⟨h.b0, h.b1, h.b2, h.b3⟩

set_option maxHeartbeats 400000 in
theorem compress_any (m : Int) (g : Nat) (s : Sip) (hs : s.Ok) (w : World) (h : Four g s w) :
    Calls Yba.prog 6 #[.int .u64 m, .pointer (some ⟨g + 1 + 1 + 1, 0, none⟩), .pointer (some ⟨g, 0, none⟩), .pointer (some ⟨g + 1, 0, none⟩), .pointer (some ⟨g + 1 + 1, 0, none⟩)] w
      fun e w' => e = .returned (.tuple #[]) ∧ Four g (comp m s) w' ∧ Below g w w' := by
  obtain ⟨v0, v1, v2, v3⟩ := s
  obtain ⟨k0, k1, k2, k3⟩ := hs
  have c0 := cell_of_one h.b0
  have c1 := cell_of_one h.b1
  have c2 := cell_of_one h.b2
  have c3 := cell_of_one h.b3
  have f0 := free_of_one h.b0
  have f1 := free_of_one h.b1
  have f2 := free_of_one h.b2
  have f3 := free_of_one h.b3
  have H : Hid (Four g ⟨v0, v1, v2, v3⟩ w) := h
  clear h
  go_enter Yba.func6, Yba.ntmps6
  go_wp2_with (go_at_call 7; refine (sipRound_any _ _ _ _ k0 k1 k2 (word_bits _ _ _) _).mono ?_; rintro e w' ⟨rfl, rfl⟩; unfold Sip.tup)
  go_end0
  refine ⟨rfl, ((((((H.out.set3 _).set0 _).set1 _).set2 _).set3 _).set0 _), ?_⟩
  exact ((((((Below.refl g w).setCell (by show g ≤ g + 1 + 1 + 1; omega) _).setCell (by show g ≤ g; omega) _).setCell (by show g ≤ g + 1; omega) _).setCell (by show g ≤ g + 1 + 1; omega) _).setCell (by show g ≤ g + 1 + 1 + 1; omega) _).setCell (by show g ≤ g; omega) _
end Go.Proofs.YbulkbrjgR
